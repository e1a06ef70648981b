import PyProof.Rows.All
import Wide.All
import OpenK.AllK
import Wide.FinOn
import Lean
import PySem.Challenge.RW_op0211_01
open PySem PySem.W PyProof.Rows PySem.Calls
set_option Elab.async false
set_option compiler.extract_closed false
set_option maxRecDepth 100000
set_option maxHeartbeats 8000000
set_option linter.unusedVariables false
namespace Mine
-- Base
section
noncomputable def body : List Stmt := PySem.Challenge.pw_op0211_01.main.body
noncomputable def stT (i : Nat) : Stmt := body.getD i (.Pass ⟨0, 0, 0, 0⟩)
noncomputable def stC (i j : Nat) : Stmt := match stT i with
  | .ClassDef _ _ _ b _ _ _ _ _ _ _ => b.getD j (.Pass ⟨0, 0, 0, 0⟩)
  | _ => .Pass ⟨0, 0, 0, 0⟩
noncomputable def fnObj (st : Stmt) (qual : Str) (dflt pm : Value) (code : Addr) : Obj := match st with
  | .FunctionDef name args body _ _ _ scope _ _ _ => { cls := .type "function", data := .func { name := name, qualname := qual, params := args, body := .stmts body, scope := scope, globals := 3, closure := [], defaults := dflt, kwdefaults := .none, pyModule := pm, code := .ref code } }
  | _ => default
noncomputable def o2 (P : Params) : Obj := { cls := .none, dict := none, data := (.dict [⟨PyData.keyHash P (Str.ofString "\x69mport.loaded._sre"), (.str (Str.ofString "\x69mport.loaded._sre") 183), (.bool true)⟩, ⟨PyData.keyHash P (Str.ofString "class._frozen_importlib.BuiltinImporter"), (.str (Str.ofString "class._frozen_importlib.BuiltinImporter") 185), (.ref 14)⟩, ⟨PyData.keyHash P (Str.ofString "watched.\x69mport"), (.str (Str.ofString "watched.\x69mport") 206), (.ref 18)⟩, ⟨PyData.keyHash P (Str.ofString "class._frozen_importlib.ModuleSpec"), (.str (Str.ofString "class._frozen_importlib.ModuleSpec") 216), (.ref 22)⟩, ⟨PyData.keyHash P (Str.ofString "sys.modules.booked-epoch"), (.str (Str.ofString "sys.modules.booked-epoch") 245), (.int 4 0)⟩, ⟨PyData.keyHash P (Str.ofString "\x69mport.later-laid._sre"), (.str (Str.ofString "\x69mport.later-laid._sre") 270), (.bool true)⟩, ⟨PyData.keyHash P (Str.ofString "watched.library"), (.str (Str.ofString "watched.library") 272), (.ref 27)⟩, ⟨PyData.keyHash P (Str.ofString "watched.library-objects"), (.str (Str.ofString "watched.library-objects") 0), (.str (Str.ofString "\x0c\x1e") 0)⟩, ⟨PyData.keyHash P (Str.ofString "watched.library-deep._sre"), (.str (Str.ofString "watched.library-deep._sre") 273), (.str (Str.ofString "\x04\x00\x00\x0b\x04\x00\x00\x0b\x04\x00\x00\x03\x04\x00\x00\x0b\x08\x04dict\x02") 0)⟩, ⟨PyData.keyHash P (Str.ofString "\x69mport.loaded._collections"), (.str (Str.ofString "\x69mport.loaded._collections") 280), (.bool true)⟩, ⟨PyData.keyHash P (Str.ofString "sys.modules.landed._collections"), (.str (Str.ofString "sys.modules.landed._collections") 294), (.bool true)⟩, ⟨PyData.keyHash P (Str.ofString "\x69mport.later-laid._collections"), (.str (Str.ofString "\x69mport.later-laid._collections") 309), (.bool true)⟩, ⟨PyData.keyHash P (Str.ofString "watched.library-deep._collections"), (.str (Str.ofString "watched.library-deep._collections") 311), (.str (Str.ofString "\x04\x00\x00\x1d\x04\x00\x00\x1d\x04\x00\x00\x03\x04\x00\x00\x1d\x08\x04dict\x02") 0)⟩, ⟨PyData.keyHash P (Str.ofString "type.__subclasses__.OSError.0"), (.str (Str.ofString "type.__subclasses__.OSError.0") 422), (.int 82 0)⟩, ⟨PyData.keyHash P (Str.ofString "type.__subclasses__.OSError.n"), (.str (Str.ofString "type.__subclasses__.OSError.n") 423), (.int 1 0)⟩].toArray 15), slots := [].toArray }
noncomputable def o3 (P : Params) : Obj := { cls := (.type "dict"), dict := none, data := (.dict [⟨PyData.keyHash P (Str.ofString "__name__"), (.str (Str.ofString "__name__") 165), (.str (Str.ofString "law_op0211_01") 1283)⟩, ⟨PyData.keyHash P (Str.ofString "__doc__"), (.str (Str.ofString "__doc__") 166), .none⟩, ⟨PyData.keyHash P (Str.ofString "__package__"), (.str (Str.ofString "__package__") 167), .none⟩, ⟨PyData.keyHash P (Str.ofString "__loader__"), (.str (Str.ofString "__loader__") 168), (.builtin "__main__.__loader__#opaque")⟩, ⟨PyData.keyHash P (Str.ofString "__spec__"), (.str (Str.ofString "__spec__") 169), .none⟩, ⟨PyData.keyHash P (Str.ofString "__annotations__"), (.str (Str.ofString "__annotations__") 170), (.ref 6)⟩, ⟨PyData.keyHash P (Str.ofString "__builtins__"), (.str (Str.ofString "__builtins__") 171), (.ref 4)⟩, ⟨PyData.keyHash P (Str.ofString "__file__"), (.str (Str.ofString "__file__") 173), (.str (Str.ofString "/claim/cut.py") 172)⟩, ⟨PyData.keyHash P (Str.ofString "__cached__"), (.str (Str.ofString "__cached__") 174), .none⟩, ⟨PyData.keyHash P (Str.ofString "_sre"), (.str (Str.ofString "_sre") 275), (.ref 12)⟩, ⟨PyData.keyHash P (Str.ofString "deque"), (.str (Str.ofString "deque") 317), (.type "collections.deque")⟩, ⟨PyData.keyHash P (Str.ofString "_wall"), (.str (Str.ofString "_wall") 330), (.ref 44)⟩, ⟨PyData.keyHash P (Str.ofString "_initial_missing"), (.str (Str.ofString "_initial_missing") 333), (.ref 45)⟩, ⟨PyData.keyHash P (Str.ofString "reduce"), (.str (Str.ofString "reduce") 345), (.ref 53)⟩, ⟨PyData.keyHash P (Str.ofString "_twin_re_1"), (.str (Str.ofString "_twin_re_1") 385), (.ref 58)⟩, ⟨PyData.keyHash P (Str.ofString "_whence"), (.str (Str.ofString "_whence") 395), (.ref 65)⟩, ⟨PyData.keyHash P (Str.ofString "_index"), (.str (Str.ofString "_index") 403), (.ref 72)⟩, ⟨PyData.keyHash P (Str.ofString "UnsupportedOperation"), (.str (Str.ofString "UnsupportedOperation") 425), (.ref 82)⟩, ⟨PyData.keyHash P (Str.ofString "IOBase"), (.str (Str.ofString "IOBase") 457), (.ref 102)⟩, ⟨PyData.keyHash P (Str.ofString "BufferedIOBase"), (.str (Str.ofString "BufferedIOBase") 475), (.ref 117)⟩, ⟨PyData.keyHash P (Str.ofString "TextIOBase"), (.str (Str.ofString "TextIOBase") 493), (.ref 129)⟩, ⟨PyData.keyHash P (Str.ofString "BytesIO"), (.str (Str.ofString "BytesIO") 755), (.ref 359)⟩, ⟨PyData.keyHash P (Str.ofString "StringIO"), (.str (Str.ofString "StringIO") 1042), (.ref 606)⟩, ⟨PyData.keyHash P (Str.ofString "_kind"), (.str (Str.ofString "_kind") 1053), (.ref 615)⟩, ⟨PyData.keyHash P (Str.ofString "_fspath"), (.str (Str.ofString "_fspath") 1062), (.ref 622)⟩, ⟨PyData.keyHash P (Str.ofString "_check_arg_types"), (.str (Str.ofString "_check_arg_types") 1072), (.ref 629)⟩, ⟨PyData.keyHash P (Str.ofString "isabs"), (.str (Str.ofString "isabs") 1079), (.ref 636)⟩, ⟨PyData.keyHash P (Str.ofString "join"), (.str (Str.ofString "join") 1090), (.ref 760)⟩, ⟨PyData.keyHash P (Str.ofString "join_path"), (.str (Str.ofString "join_path") 1091), (.ref 643)⟩, ⟨PyData.keyHash P (Str.ofString "dirname"), (.str (Str.ofString "dirname") 1101), (.ref 650)⟩, ⟨PyData.keyHash P (Str.ofString "shlex"), (.str (Str.ofString "shlex") 1242), (.ref 741)⟩, ⟨PyData.keyHash P (Str.ofString "split"), (.str (Str.ofString "split") 1252), (.ref 753)⟩, ⟨PyData.keyHash P (Str.ofString "join_shlex"), (.str (Str.ofString "join_shlex") 1260), (.ref 760)⟩, ⟨PyData.keyHash P (Str.ofString "_find_unsafe"), (.str (Str.ofString "_find_unsafe") 1262), (.ref 761)⟩, ⟨PyData.keyHash P (Str.ofString "quote"), (.str (Str.ofString "quote") 1269), (.ref 768)⟩, ⟨PyData.keyHash P (Str.ofString "_byteswap"), (.str (Str.ofString "_byteswap") 1282), (.ref 775)⟩, ⟨PyData.keyHash P (Str.ofString "_law_word"), (.str (Str.ofString "_law_word") 1290), (.ref 780)⟩, ⟨PyData.keyHash P (Str.ofString "_law_turned"), (.str (Str.ofString "_law_turned") 1296), (.ref 785)⟩, ⟨PyData.keyHash P (Str.ofString "_law_grown"), (.str (Str.ofString "_law_grown") 1304), (.ref 792)⟩, ⟨PyData.keyHash P (Str.ofString "_law_forest"), (.str (Str.ofString "_law_forest") 1313), (.ref 799)⟩, ⟨PyData.keyHash P (Str.ofString "_law_written"), (.str (Str.ofString "_law_written") 1322), (.ref 806)⟩, ⟨PyData.keyHash P (Str.ofString "law"), (.str (Str.ofString "law") 1328), (.ref 811)⟩].toArray 42), slots := [].toArray }
noncomputable def o45 (P : Params) : Obj := { cls := (.type "object"), dict := none, data := .plain, slots := [].toArray }
noncomputable def o46 (P : Params) : Obj := { cls := (.type "tuple"), dict := none, data := (.seq [(.ref 45)].toArray 0), slots := [].toArray }
noncomputable def o52 (P : Params) : Obj := { cls := (.type "code"), dict := none, data := (.fields [(.str (Str.ofString "reduce") 334), (.str (Str.ofString "reduce") 335), (.str (Str.ofString "/claim/cut.py") 336), (.int 8 0), (.int 3 0), (.int 0 0), (.int 0 0), (.int 3 0), (.ref 47), (.bool true), (.int 318 0), (.ref 48), .none, (.ref 49), (.ref 50), (.ref 51), (.int 343 0), (.int 8 0), (.str (Str.ofString "/claim/cut.py") 344)].toArray), slots := [].toArray }
noncomputable def o53 (P : Params) : Obj := fnObj (stT 5) (Str.ofString "reduce") (.ref 46) (.str (Str.ofString "cpy313.functools") 331) 52
noncomputable def o57 (P : Params) : Obj := { cls := (.type "tuple"), dict := none, data := (.seq [(.int 14 0), (.int 17 0), (.int 4 0), (.int 1 0), (.int 1 0), (.int 21 0), (.int 9 0), (.int 0 0), (.int 604043296 0), (.int 1 0), (.int 0 0), (.int 0 0), (.int 0 0), (.int 0 0), (.int 0 0), (.int 8 0), (.int 4 0), (.int 0 0), (.int 13 0), (.int 14 0), (.int 21 0), (.int 9 0), (.int 0 0), (.int 604043296 0), (.int 1 0), (.int 0 0), (.int 0 0), (.int 0 0), (.int 0 0), (.int 0 0), (.int 8 0), (.int 4 0), (.int 0 0), (.int 1 0)].toArray 0), slots := [].toArray }
noncomputable def o58 (P : Params) : Obj := { cls := (.type "re.Pattern"), dict := none, data := (.fields [(.str (Str.ofString "[^\\w@%+=:,./-]") 347), (.int 256 384), (.int 0 0), .none, .none, (.ref 57), (.int 0 0)].toArray), slots := [].toArray }
noncomputable def o71 (P : Params) : Obj := { cls := (.type "code"), dict := none, data := (.fields [(.str (Str.ofString "_index") 396), (.str (Str.ofString "_index") 397), (.str (Str.ofString "/claim/cut.py") 398), (.int 27 0), (.int 2 0), (.int 0 0), (.int 0 0), (.int 3 0), (.ref 66), (.bool true), (.int 318 0), (.ref 67), .none, (.ref 68), (.ref 69), (.ref 70), (.int 401 0), (.int 27 0), (.str (Str.ofString "/claim/cut.py") 402)].toArray), slots := [].toArray }
noncomputable def o72 (P : Params) : Obj := fnObj (stT 9) (Str.ofString "_index") .none (.str (Str.ofString "io") 386) 71
noncomputable def o98 (P : Params) : Obj := { cls := (.type "code"), dict := none, data := (.fields [(.str (Str.ofString "__new__") 440), (.str (Str.ofString "IOBase.__new__") 441), (.str (Str.ofString "/claim/cut.py") 442), (.int 39 0), (.int 1 0), (.int 1 0), (.int 0 0), (.int 15 0), (.ref 93), (.bool true), (.int 318 0), (.ref 94), .none, (.ref 95), (.ref 96), (.ref 97), (.int 446 0), (.int 39 0), (.str (Str.ofString "/claim/cut.py") 447)].toArray), slots := [].toArray }
noncomputable def o99 (P : Params) : Obj := fnObj (stC 11 1) (Str.ofString "IOBase.__new__") .none (.str (Str.ofString "io") 386) 98
noncomputable def o101 (P : Params) : Obj := { cls := (.type "dict"), dict := none, data := (.dict [⟨PyData.keyHash P (Str.ofString "__module__"), (.str (Str.ofString "__module__") 433), (.str (Str.ofString "io") 438)⟩, ⟨PyData.keyHash P (Str.ofString "__firstlineno__"), (.str (Str.ofString "__firstlineno__") 437), (.int 36 436)⟩, ⟨PyData.keyHash P (Str.ofString "__new__"), (.str (Str.ofString "__new__") 448), (.ref 103)⟩, ⟨PyData.keyHash P (Str.ofString "__static_attributes__"), (.str (Str.ofString "__static_attributes__") 449), (.ref 100)⟩, ⟨PyData.keyHash P (Str.ofString "__dict__"), (.str (Str.ofString "__dict__") 452), (.ref 104)⟩, ⟨PyData.keyHash P (Str.ofString "__weakref__"), (.str (Str.ofString "__weakref__") 454), (.ref 105)⟩, ⟨PyData.keyHash P (Str.ofString "__doc__"), (.str (Str.ofString "__doc__") 455), .none⟩].toArray 4), slots := [].toArray }
noncomputable def o102 (P : Params) : Obj := { cls := (.type "type"), dict := none, data := (.cls { name := (Str.ofString "IOBase"), bases := [(.type "object")], mro := [(.ref 102), (.type "object")], ns := 101, qualname := (Str.ofString "IOBase"), hasDict := true, slotNames := [], subclasses := [(.ref 117), (.ref 129)], abstract := false, collection := none, hasDel := false }), slots := [none, none, (some (.str (Str.ofString "IOBase") 426)), (some (.str (Str.ofString "IOBase") 434)), (some .none), (some (.bool true))].toArray }
noncomputable def o103 (P : Params) : Obj := { cls := (.type "staticmethod"), dict := none, data := (.fields [(.ref 99)].toArray), slots := [].toArray }
noncomputable def o104 (P : Params) : Obj := { cls := (.type "getset_descriptor"), dict := none, data := (.fields [(.str (Str.ofString "__dict__") 451), (.ref 102), (.builtin "function.__dict__"), (.builtin "function.__dict__#set")].toArray), slots := [].toArray }
noncomputable def o105 (P : Params) : Obj := { cls := (.type "getset_descriptor"), dict := none, data := (.fields [(.str (Str.ofString "__weakref__") 453), (.ref 102), (.builtin "ExceptionGroup.__weakref__"), .none].toArray), slots := [].toArray }
noncomputable def o128 (P : Params) : Obj := { cls := (.type "dict"), dict := none, data := (.dict [⟨PyData.keyHash P (Str.ofString "__module__"), (.str (Str.ofString "__module__") 483), (.str (Str.ofString "io") 488)⟩, ⟨PyData.keyHash P (Str.ofString "__firstlineno__"), (.str (Str.ofString "__firstlineno__") 487), (.int 45 486)⟩, ⟨PyData.keyHash P (Str.ofString "__static_attributes__"), (.str (Str.ofString "__static_attributes__") 490), (.ref 127)⟩, ⟨PyData.keyHash P (Str.ofString "__doc__"), (.str (Str.ofString "__doc__") 491), .none⟩].toArray 2), slots := [].toArray }
noncomputable def o129 (P : Params) : Obj := { cls := (.type "type"), dict := none, data := (.cls { name := (Str.ofString "TextIOBase"), bases := [(.ref 102)], mro := [(.ref 129), (.ref 102), (.type "object")], ns := 128, qualname := (Str.ofString "TextIOBase"), hasDict := true, slotNames := [], subclasses := [(.ref 606)], abstract := false, collection := none, hasDel := false }), slots := [(some (.ref 120)), none, (some (.str (Str.ofString "TextIOBase") 476)), (some (.str (Str.ofString "TextIOBase") 484)), (some .none), (some (.bool true))].toArray }
noncomputable def o359 (P : Params) : Obj := { cls := (.type "type"), dict := none, data := (.cls { name := (Str.ofString "BytesIO"), bases := [(.ref 117)], mro := [(.ref 359), (.ref 117), (.ref 102), (.type "object")], ns := 358, qualname := (Str.ofString "BytesIO"), hasDict := true, slotNames := [], subclasses := [], abstract := false, collection := none, hasDel := false }), slots := [(some (.ref 132)), none, (some (.str (Str.ofString "BytesIO") 494)), (some (.str (Str.ofString "BytesIO") 502)), (some .none), (some (.bool true))].toArray }
noncomputable def o369 (P : Params) : Obj := { cls := (.type "tuple"), dict := none, data := (.seq [(.str (Str.ofString "") 770), (.str (Str.ofString "\n") 771)].toArray 0), slots := [].toArray }
noncomputable def o375 (P : Params) : Obj := { cls := (.type "code"), dict := none, data := (.fields [(.str (Str.ofString "__init__") 772), (.str (Str.ofString "StringIO.__init__") 773), (.str (Str.ofString "/claim/cut.py") 774), (.int 220 0), (.int 3 0), (.int 0 0), (.int 0 0), (.int 3 0), (.ref 370), (.bool true), (.int 318 0), (.ref 371), .none, (.ref 372), (.ref 373), (.ref 374), (.int 778 0), (.int 220 0), (.str (Str.ofString "/claim/cut.py") 779)].toArray), slots := [].toArray }
noncomputable def o376 (P : Params) : Obj := fnObj (stC 15 1) (Str.ofString "StringIO.__init__") (.ref 369) (.str (Str.ofString "io") 386) 375
noncomputable def o382 (P : Params) : Obj := { cls := (.type "code"), dict := none, data := (.fields [(.str (Str.ofString "__translated") 781), (.str (Str.ofString "StringIO.__translated") 782), (.str (Str.ofString "/claim/cut.py") 783), (.int 233 0), (.int 2 0), (.int 0 0), (.int 0 0), (.int 3 0), (.ref 377), (.bool true), (.int 318 0), (.ref 378), .none, (.ref 379), (.ref 380), (.ref 381), (.int 787 0), (.int 233 0), (.str (Str.ofString "/claim/cut.py") 788)].toArray), slots := [].toArray }
noncomputable def o383 (P : Params) : Obj := fnObj (stC 15 2) (Str.ofString "StringIO.__translated") .none (.str (Str.ofString "io") 386) 382
noncomputable def o389 (P : Params) : Obj := { cls := (.type "code"), dict := none, data := (.fields [(.str (Str.ofString "__check") 790), (.str (Str.ofString "StringIO.__check") 791), (.str (Str.ofString "/claim/cut.py") 792), (.int 241 0), (.int 1 0), (.int 0 0), (.int 0 0), (.int 3 0), (.ref 384), (.bool true), (.int 318 0), (.ref 385), .none, (.ref 386), (.ref 387), (.ref 388), (.int 794 0), (.int 241 0), (.str (Str.ofString "/claim/cut.py") 795)].toArray), slots := [].toArray }
noncomputable def o390 (P : Params) : Obj := fnObj (stC 15 3) (Str.ofString "StringIO.__check") .none (.str (Str.ofString "io") 386) 389
noncomputable def o545 (P : Params) : Obj := { cls := (.type "tuple"), dict := none, data := (.seq [(.int (-1) 963)].toArray 0), slots := [].toArray }
noncomputable def o551 (P : Params) : Obj := { cls := (.type "code"), dict := none, data := (.fields [(.str (Str.ofString "read") 964), (.str (Str.ofString "StringIO.read") 965), (.str (Str.ofString "/claim/cut.py") 966), (.int 363 0), (.int 2 0), (.int 2 0), (.int 0 0), (.int 3 0), (.ref 546), (.bool true), (.int 318 0), (.ref 547), .none, (.ref 548), (.ref 549), (.ref 550), (.int 971 0), (.int 363 0), (.str (Str.ofString "/claim/cut.py") 972)].toArray), slots := [].toArray }
noncomputable def o552 (P : Params) : Obj := fnObj (stC 15 25) (Str.ofString "StringIO.read") (.ref 545) (.str (Str.ofString "io") 386) 551
noncomputable def o605 (P : Params) : Obj := { cls := (.type "dict"), dict := none, data := (.dict [⟨PyData.keyHash P (Str.ofString "__module__"), (.str (Str.ofString "__module__") 763), (.str (Str.ofString "_io") 768)⟩, ⟨PyData.keyHash P (Str.ofString "__firstlineno__"), (.str (Str.ofString "__firstlineno__") 767), (.int 217 766)⟩, ⟨PyData.keyHash P (Str.ofString "__init__"), (.str (Str.ofString "__init__") 780), (.ref 376)⟩, ⟨PyData.keyHash P (Str.ofString "_StringIO__translated"), (.str (Str.ofString "_StringIO__translated") 789), (.ref 383)⟩, ⟨PyData.keyHash P (Str.ofString "_StringIO__check"), (.str (Str.ofString "_StringIO__check") 796), (.ref 390)⟩, ⟨PyData.keyHash P (Str.ofString "_StringIO__check_dot"), (.str (Str.ofString "_StringIO__check_dot") 803), (.ref 397)⟩, ⟨PyData.keyHash P (Str.ofString "_StringIO__line"), (.str (Str.ofString "_StringIO__line") 818), (.ref 404)⟩, ⟨PyData.keyHash P (Str.ofString "closed"), (.str (Str.ofString "closed") 826), (.ref 412)⟩, ⟨PyData.keyHash P (Str.ofString "line_buffering"), (.str (Str.ofString "line_buffering") 834), (.ref 420)⟩, ⟨PyData.keyHash P (Str.ofString "newlines"), (.str (Str.ofString "newlines") 842), (.ref 428)⟩, ⟨PyData.keyHash P (Str.ofString "encoding"), (.str (Str.ofString "encoding") 850), (.ref 436)⟩, ⟨PyData.keyHash P (Str.ofString "errors"), (.str (Str.ofString "errors") 858), (.ref 444)⟩, ⟨PyData.keyHash P (Str.ofString "close"), (.str (Str.ofString "close") 865), (.ref 451)⟩, ⟨PyData.keyHash P (Str.ofString "__enter__"), (.str (Str.ofString "__enter__") 872), (.ref 458)⟩, ⟨PyData.keyHash P (Str.ofString "__exit__"), (.str (Str.ofString "__exit__") 880), (.ref 465)⟩, ⟨PyData.keyHash P (Str.ofString "readable"), (.str (Str.ofString "readable") 887), (.ref 472)⟩, ⟨PyData.keyHash P (Str.ofString "writable"), (.str (Str.ofString "writable") 894), (.ref 479)⟩, ⟨PyData.keyHash P (Str.ofString "seekable"), (.str (Str.ofString "seekable") 901), (.ref 486)⟩, ⟨PyData.keyHash P (Str.ofString "isatty"), (.str (Str.ofString "isatty") 908), (.ref 493)⟩, ⟨PyData.keyHash P (Str.ofString "flush"), (.str (Str.ofString "flush") 915), (.ref 500)⟩, ⟨PyData.keyHash P (Str.ofString "fileno"), (.str (Str.ofString "fileno") 922), (.ref 507)⟩, ⟨PyData.keyHash P (Str.ofString "detach"), (.str (Str.ofString "detach") 929), (.ref 514)⟩, ⟨PyData.keyHash P (Str.ofString "getvalue"), (.str (Str.ofString "getvalue") 936), (.ref 521)⟩, ⟨PyData.keyHash P (Str.ofString "tell"), (.str (Str.ofString "tell") 943), (.ref 528)⟩, ⟨PyData.keyHash P (Str.ofString "seek"), (.str (Str.ofString "seek") 953), (.ref 536)⟩, ⟨PyData.keyHash P (Str.ofString "truncate"), (.str (Str.ofString "truncate") 961), (.ref 544)⟩, ⟨PyData.keyHash P (Str.ofString "read"), (.str (Str.ofString "read") 973), (.ref 552)⟩, ⟨PyData.keyHash P (Str.ofString "readline"), (.str (Str.ofString "readline") 983), (.ref 560)⟩, ⟨PyData.keyHash P (Str.ofString "readlines"), (.str (Str.ofString "readlines") 993), (.ref 568)⟩, ⟨PyData.keyHash P (Str.ofString "__iter__"), (.str (Str.ofString "__iter__") 1000), (.ref 575)⟩, ⟨PyData.keyHash P (Str.ofString "__next__"), (.str (Str.ofString "__next__") 1008), (.ref 582)⟩, ⟨PyData.keyHash P (Str.ofString "write"), (.str (Str.ofString "write") 1020), (.ref 589)⟩, ⟨PyData.keyHash P (Str.ofString "writelines"), (.str (Str.ofString "writelines") 1028), (.ref 596)⟩, ⟨PyData.keyHash P (Str.ofString "__repr__"), (.str (Str.ofString "__repr__") 1035), (.ref 603)⟩, ⟨PyData.keyHash P (Str.ofString "__static_attributes__"), (.str (Str.ofString "__static_attributes__") 1039), (.ref 604)⟩, ⟨PyData.keyHash P (Str.ofString "__doc__"), (.str (Str.ofString "__doc__") 1040), .none⟩].toArray 2), slots := [].toArray }
noncomputable def o606 (P : Params) : Obj := { cls := (.type "type"), dict := none, data := (.cls { name := (Str.ofString "StringIO"), bases := [(.ref 129)], mro := [(.ref 606), (.ref 129), (.ref 102), (.type "object")], ns := 605, qualname := (Str.ofString "StringIO"), hasDict := true, slotNames := [], subclasses := [], abstract := false, collection := none, hasDel := false }), slots := [(some (.ref 362)), none, (some (.str (Str.ofString "StringIO") 756)), (some (.str (Str.ofString "StringIO") 764)), (some .none), (some (.bool true))].toArray }
noncomputable def o658 (P : Params) : Obj := { cls := (.type "tuple"), dict := none, data := (.seq [.none, .none, (.bool false), (.bool false)].toArray 0), slots := [].toArray }
noncomputable def o664 (P : Params) : Obj := { cls := (.type "code"), dict := none, data := (.fields [(.str (Str.ofString "__init__") 1116), (.str (Str.ofString "shlex.__init__") 1117), (.str (Str.ofString "/claim/cut.py") 1118), (.int 489 0), (.int 5 0), (.int 0 0), (.int 0 0), (.int 3 0), (.ref 659), (.bool true), (.int 318 0), (.ref 660), .none, (.ref 661), (.ref 662), (.ref 663), (.int 1125 0), (.int 489 0), (.str (Str.ofString "/claim/cut.py") 1126)].toArray), slots := [].toArray }
noncomputable def o665 (P : Params) : Obj := fnObj (stC 25 0) (Str.ofString "shlex.__init__") (.ref 658) (.str (Str.ofString "cpy313.shlex") 1102) 664
noncomputable def o671 (P : Params) : Obj := { cls := (.type "code"), dict := none, data := (.fields [(.str (Str.ofString "punctuation_chars") 1128), (.str (Str.ofString "shlex.punctuation_chars") 1129), (.str (Str.ofString "/claim/cut.py") 1130), (.int 530 0), (.int 1 0), (.int 0 0), (.int 0 0), (.int 3 0), (.ref 666), (.bool true), (.int 318 0), (.ref 667), .none, (.ref 668), (.ref 669), (.ref 670), (.int 1132 0), (.int 530 0), (.str (Str.ofString "/claim/cut.py") 1133)].toArray), slots := [].toArray }
noncomputable def o672 (P : Params) : Obj := fnObj (stC 25 1) (Str.ofString "shlex.punctuation_chars") .none (.str (Str.ofString "cpy313.shlex") 1102) 671
noncomputable def o673 (P : Params) : Obj := { cls := (.type "property"), dict := none, data := (.fields [(.ref 672), .none, .none, .none, (.str (Str.ofString "punctuation_chars") 1135), (.bool false)].toArray), slots := [].toArray }
noncomputable def o701 (P : Params) : Obj := { cls := (.type "code"), dict := none, data := (.fields [(.str (Str.ofString "get_token") 1160), (.str (Str.ofString "shlex.get_token") 1161), (.str (Str.ofString "/claim/cut.py") 1162), (.int 557 0), (.int 1 0), (.int 0 0), (.int 0 0), (.int 3 0), (.ref 696), (.bool true), (.int 318 0), (.ref 697), .none, (.ref 698), (.ref 699), (.ref 700), (.int 1169 0), (.int 557 0), (.str (Str.ofString "/claim/cut.py") 1170)].toArray), slots := [].toArray }
noncomputable def o702 (P : Params) : Obj := fnObj (stC 25 5) (Str.ofString "shlex.get_token") .none (.str (Str.ofString "cpy313.shlex") 1102) 701
noncomputable def o708 (P : Params) : Obj := { cls := (.type "code"), dict := none, data := (.fields [(.str (Str.ofString "read_token") 1172), (.str (Str.ofString "shlex.read_token") 1173), (.str (Str.ofString "/claim/cut.py") 1174), (.int 584 0), (.int 1 0), (.int 0 0), (.int 0 0), (.int 3 0), (.ref 703), (.bool true), (.int 318 0), (.ref 704), .none, (.ref 705), (.ref 706), (.ref 707), (.int 1180 0), (.int 584 0), (.str (Str.ofString "/claim/cut.py") 1181)].toArray), slots := [].toArray }
noncomputable def o709 (P : Params) : Obj := fnObj (stC 25 6) (Str.ofString "shlex.read_token") .none (.str (Str.ofString "cpy313.shlex") 1102) 708
noncomputable def o730 (P : Params) : Obj := { cls := (.type "code"), dict := none, data := (.fields [(.str (Str.ofString "__iter__") 1200), (.str (Str.ofString "shlex.__iter__") 1201), (.str (Str.ofString "/claim/cut.py") 1202), (.int 731 0), (.int 1 0), (.int 0 0), (.int 0 0), (.int 3 0), (.ref 725), (.bool true), (.int 318 0), (.ref 726), .none, (.ref 727), (.ref 728), (.ref 729), (.int 1204 0), (.int 731 0), (.str (Str.ofString "/claim/cut.py") 1205)].toArray), slots := [].toArray }
noncomputable def o731 (P : Params) : Obj := fnObj (stC 25 9) (Str.ofString "shlex.__iter__") .none (.str (Str.ofString "cpy313.shlex") 1102) 730
noncomputable def o737 (P : Params) : Obj := { cls := (.type "code"), dict := none, data := (.fields [(.str (Str.ofString "__next__") 1207), (.str (Str.ofString "shlex.__next__") 1208), (.str (Str.ofString "/claim/cut.py") 1209), (.int 734 0), (.int 1 0), (.int 0 0), (.int 0 0), (.int 3 0), (.ref 732), (.bool true), (.int 318 0), (.ref 733), .none, (.ref 734), (.ref 735), (.ref 736), (.int 1212 0), (.int 734 0), (.str (Str.ofString "/claim/cut.py") 1213)].toArray), slots := [].toArray }
noncomputable def o738 (P : Params) : Obj := fnObj (stC 25 10) (Str.ofString "shlex.__next__") .none (.str (Str.ofString "cpy313.shlex") 1102) 737
noncomputable def o740 (P : Params) : Obj := { cls := (.type "dict"), dict := none, data := (.dict [⟨PyData.keyHash P (Str.ofString "__module__"), (.str (Str.ofString "__module__") 1111), (.str (Str.ofString "cpy313.shlex") 1102)⟩, ⟨PyData.keyHash P (Str.ofString "__firstlineno__"), (.str (Str.ofString "__firstlineno__") 1115), (.int 487 1114)⟩, ⟨PyData.keyHash P (Str.ofString "__init__"), (.str (Str.ofString "__init__") 1127), (.ref 665)⟩, ⟨PyData.keyHash P (Str.ofString "punctuation_chars"), (.str (Str.ofString "punctuation_chars") 1135), (.ref 673)⟩, ⟨PyData.keyHash P (Str.ofString "push_token"), (.str (Str.ofString "push_token") 1143), (.ref 680)⟩, ⟨PyData.keyHash P (Str.ofString "push_source"), (.str (Str.ofString "push_source") 1152), (.ref 688)⟩, ⟨PyData.keyHash P (Str.ofString "pop_source"), (.str (Str.ofString "pop_source") 1159), (.ref 695)⟩, ⟨PyData.keyHash P (Str.ofString "get_token"), (.str (Str.ofString "get_token") 1171), (.ref 702)⟩, ⟨PyData.keyHash P (Str.ofString "read_token"), (.str (Str.ofString "read_token") 1182), (.ref 709)⟩, ⟨PyData.keyHash P (Str.ofString "sourcehook"), (.str (Str.ofString "sourcehook") 1190), (.ref 716)⟩, ⟨PyData.keyHash P (Str.ofString "error_leader"), (.str (Str.ofString "error_leader") 1199), (.ref 724)⟩, ⟨PyData.keyHash P (Str.ofString "__iter__"), (.str (Str.ofString "__iter__") 1206), (.ref 731)⟩, ⟨PyData.keyHash P (Str.ofString "__next__"), (.str (Str.ofString "__next__") 1214), (.ref 738)⟩, ⟨PyData.keyHash P (Str.ofString "__static_attributes__"), (.str (Str.ofString "__static_attributes__") 1235), (.ref 739)⟩, ⟨PyData.keyHash P (Str.ofString "__dict__"), (.str (Str.ofString "__dict__") 1237), (.ref 742)⟩, ⟨PyData.keyHash P (Str.ofString "__weakref__"), (.str (Str.ofString "__weakref__") 1239), (.ref 743)⟩, ⟨PyData.keyHash P (Str.ofString "__doc__"), (.str (Str.ofString "__doc__") 1240), .none⟩].toArray 4), slots := [].toArray }
noncomputable def o741 (P : Params) : Obj := { cls := (.type "type"), dict := none, data := (.cls { name := (Str.ofString "shlex"), bases := [(.type "object")], mro := [(.ref 741), (.type "object")], ns := 740, qualname := (Str.ofString "shlex"), hasDict := true, slotNames := [], subclasses := [], abstract := false, collection := none, hasDel := false }), slots := [none, none, (some (.str (Str.ofString "shlex") 1104)), (some (.str (Str.ofString "shlex") 1112)), (some (.builtin "object.__new__")), (some (.bool true))].toArray }
noncomputable def o742 (P : Params) : Obj := { cls := (.type "getset_descriptor"), dict := none, data := (.fields [(.str (Str.ofString "__dict__") 1236), (.ref 741), (.builtin "function.__dict__"), (.builtin "function.__dict__#set")].toArray), slots := [].toArray }
noncomputable def o743 (P : Params) : Obj := { cls := (.type "getset_descriptor"), dict := none, data := (.fields [(.str (Str.ofString "__weakref__") 1238), (.ref 741), (.builtin "ExceptionGroup.__weakref__"), .none].toArray), slots := [].toArray }
noncomputable def o746 (P : Params) : Obj := { cls := (.type "tuple"), dict := none, data := (.seq [(.bool false), (.bool true)].toArray 0), slots := [].toArray }
noncomputable def o752 (P : Params) : Obj := { cls := (.type "code"), dict := none, data := (.fields [(.str (Str.ofString "split") 1243), (.str (Str.ofString "split") 1244), (.str (Str.ofString "/claim/cut.py") 1245), (.int 739 0), (.int 3 0), (.int 0 0), (.int 0 0), (.int 3 0), (.ref 747), (.bool true), (.int 318 0), (.ref 748), .none, (.ref 749), (.ref 750), (.ref 751), (.int 1250 0), (.int 739 0), (.str (Str.ofString "/claim/cut.py") 1251)].toArray), slots := [].toArray }
noncomputable def o753 (P : Params) : Obj := fnObj (stT 26) (Str.ofString "split") (.ref 746) (.str (Str.ofString "cpy313.shlex") 1102) 752
noncomputable def o759 (P : Params) : Obj := { cls := (.type "code"), dict := none, data := (.fields [(.str (Str.ofString "join") 1253), (.str (Str.ofString "join") 1254), (.str (Str.ofString "/claim/cut.py") 1255), (.int 747 0), (.int 1 0), (.int 0 0), (.int 0 0), (.int 3 0), (.ref 754), (.bool true), (.int 318 0), (.ref 755), .none, (.ref 756), (.ref 757), (.ref 758), (.int 1257 0), (.int 747 0), (.str (Str.ofString "/claim/cut.py") 1258)].toArray), slots := [].toArray }
noncomputable def o760 (P : Params) : Obj := fnObj (stT 27) (Str.ofString "join") .none (.str (Str.ofString "cpy313.shlex") 1102) 759
noncomputable def o761 (P : Params) : Obj := { cls := (.type "builtin_function_or_method"), dict := none, data := (.fields [(.builtin "re.Pattern.search"), (.ref 58)].toArray), slots := [].toArray }
noncomputable def o767 (P : Params) : Obj := { cls := (.type "code"), dict := none, data := (.fields [(.str (Str.ofString "quote") 1263), (.str (Str.ofString "quote") 1264), (.str (Str.ofString "/claim/cut.py") 1265), (.int 751 0), (.int 1 0), (.int 0 0), (.int 0 0), (.int 3 0), (.ref 762), (.bool true), (.int 318 0), (.ref 763), .none, (.ref 764), (.ref 765), (.ref 766), (.int 1267 0), (.int 751 0), (.str (Str.ofString "/claim/cut.py") 1268)].toArray), slots := [].toArray }
noncomputable def o768 (P : Params) : Obj := fnObj (stT 30) (Str.ofString "quote") .none (.str (Str.ofString "cpy313.shlex") 1102) 767
noncomputable def o774 (P : Params) : Obj := { cls := (.type "code"), dict := none, data := (.fields [(.str (Str.ofString "_byteswap") 1272), (.str (Str.ofString "_byteswap") 1273), (.str (Str.ofString "/claim/cut.py") 1274), (.int 758 0), (.int 2 0), (.int 0 0), (.int 0 0), (.int 3 0), (.ref 769), (.bool true), (.int 318 0), (.ref 770), .none, (.ref 771), (.ref 772), (.ref 773), (.int 1280 0), (.int 758 0), (.str (Str.ofString "/claim/cut.py") 1281)].toArray), slots := [].toArray }
noncomputable def o775 (P : Params) : Obj := fnObj (stT 32) (Str.ofString "_byteswap") .none (.str (Str.ofString "cpy313.wave") 1270) 774
noncomputable def o779 (P : Params) : Obj := { cls := (.type "code"), dict := none, data := (.fields [(.str (Str.ofString "_law_word") 1285), (.str (Str.ofString "_law_word") 1286), (.str (Str.ofString "/claim/cut.py") 1287), (.int 765 0), (.int 1 0), (.int 0 0), (.int 0 0), (.int 3 0), (.ref 776), (.bool true), (.int 318 0), (.ref 777), .none, .none, .none, (.ref 778), (.int 1288 0), (.int 765 0), (.str (Str.ofString "/claim/cut.py") 1289)].toArray), slots := [].toArray }
noncomputable def o780 (P : Params) : Obj := fnObj (stT 34) (Str.ofString "_law_word") .none (.str (Str.ofString "law_op0211_01") 1283) 779
noncomputable def o784 (P : Params) : Obj := { cls := (.type "code"), dict := none, data := (.fields [(.str (Str.ofString "_law_turned") 1291), (.str (Str.ofString "_law_turned") 1292), (.str (Str.ofString "/claim/cut.py") 1293), (.int 767 0), (.int 1 0), (.int 0 0), (.int 0 0), (.int 3 0), (.ref 781), (.bool true), (.int 318 0), (.ref 782), .none, .none, .none, (.ref 783), (.int 1294 0), (.int 767 0), (.str (Str.ofString "/claim/cut.py") 1295)].toArray), slots := [].toArray }
noncomputable def o785 (P : Params) : Obj := fnObj (stT 35) (Str.ofString "_law_turned") .none (.str (Str.ofString "law_op0211_01") 1283) 784
noncomputable def o791 (P : Params) : Obj := { cls := (.type "code"), dict := none, data := (.fields [(.str (Str.ofString "_law_grown") 1297), (.str (Str.ofString "_law_grown") 1298), (.str (Str.ofString "/claim/cut.py") 1299), (.int 770 0), (.int 2 0), (.int 0 0), (.int 0 0), (.int 3 0), (.ref 786), (.bool true), (.int 318 0), (.ref 787), .none, (.ref 788), (.ref 789), (.ref 790), (.int 1302 0), (.int 770 0), (.str (Str.ofString "/claim/cut.py") 1303)].toArray), slots := [].toArray }
noncomputable def o792 (P : Params) : Obj := fnObj (stT 36) (Str.ofString "_law_grown") .none (.str (Str.ofString "law_op0211_01") 1283) 791
noncomputable def o798 (P : Params) : Obj := { cls := (.type "code"), dict := none, data := (.fields [(.str (Str.ofString "_law_forest") 1305), (.str (Str.ofString "_law_forest") 1306), (.str (Str.ofString "/claim/cut.py") 1307), (.int 774 0), (.int 2 0), (.int 0 0), (.int 0 0), (.int 3 0), (.ref 793), (.bool true), (.int 318 0), (.ref 794), .none, (.ref 795), (.ref 796), (.ref 797), (.int 1311 0), (.int 774 0), (.str (Str.ofString "/claim/cut.py") 1312)].toArray), slots := [].toArray }
noncomputable def o799 (P : Params) : Obj := fnObj (stT 37) (Str.ofString "_law_forest") .none (.str (Str.ofString "law_op0211_01") 1283) 798
noncomputable def o805 (P : Params) : Obj := { cls := (.type "code"), dict := none, data := (.fields [(.str (Str.ofString "_law_written") 1314), (.str (Str.ofString "_law_written") 1315), (.str (Str.ofString "/claim/cut.py") 1316), (.int 777 0), (.int 1 0), (.int 0 0), (.int 0 0), (.int 3 0), (.ref 800), (.bool true), (.int 318 0), (.ref 801), .none, (.ref 802), (.ref 803), (.ref 804), (.int 1320 0), (.int 777 0), (.str (Str.ofString "/claim/cut.py") 1321)].toArray), slots := [].toArray }
noncomputable def o806 (P : Params) : Obj := fnObj (stT 38) (Str.ofString "_law_written") .none (.str (Str.ofString "law_op0211_01") 1283) 805
noncomputable def o810 (P : Params) : Obj := { cls := (.type "code"), dict := none, data := (.fields [(.str (Str.ofString "law") 1323), (.str (Str.ofString "law") 1324), (.str (Str.ofString "/claim/cut.py") 1325), (.int 782 0), (.int 1 0), (.int 0 0), (.int 0 0), (.int 3 0), (.ref 807), (.bool true), (.int 318 0), (.ref 808), .none, .none, .none, (.ref 809), (.int 1326 0), (.int 782 0), (.str (Str.ofString "/claim/cut.py") 1327)].toArray), slots := [].toArray }
noncomputable def o811 (P : Params) : Obj := fnObj (stT 39) (Str.ofString "law") .none (.str (Str.ofString "law_op0211_01") 1283) 810
noncomputable def K (P : Params) : Frag := (nat_lit 2, o2 P) :: (nat_lit 3, o3 P) :: (nat_lit 45, o45 P) :: (nat_lit 46, o46 P) :: (nat_lit 52, o52 P) :: (nat_lit 53, o53 P) :: (nat_lit 57, o57 P) :: (nat_lit 58, o58 P) :: (nat_lit 71, o71 P) :: (nat_lit 72, o72 P) :: (nat_lit 98, o98 P) :: (nat_lit 99, o99 P) :: (nat_lit 101, o101 P) :: (nat_lit 102, o102 P) :: (nat_lit 103, o103 P) :: (nat_lit 104, o104 P) :: (nat_lit 105, o105 P) :: (nat_lit 128, o128 P) :: (nat_lit 129, o129 P) :: (nat_lit 359, o359 P) :: (nat_lit 369, o369 P) :: (nat_lit 375, o375 P) :: (nat_lit 376, o376 P) :: (nat_lit 382, o382 P) :: (nat_lit 383, o383 P) :: (nat_lit 389, o389 P) :: (nat_lit 390, o390 P) :: (nat_lit 545, o545 P) :: (nat_lit 551, o551 P) :: (nat_lit 552, o552 P) :: (nat_lit 605, o605 P) :: (nat_lit 606, o606 P) :: (nat_lit 658, o658 P) :: (nat_lit 664, o664 P) :: (nat_lit 665, o665 P) :: (nat_lit 671, o671 P) :: (nat_lit 672, o672 P) :: (nat_lit 673, o673 P) :: (nat_lit 701, o701 P) :: (nat_lit 702, o702 P) :: (nat_lit 708, o708 P) :: (nat_lit 709, o709 P) :: (nat_lit 730, o730 P) :: (nat_lit 731, o731 P) :: (nat_lit 737, o737 P) :: (nat_lit 738, o738 P) :: (nat_lit 740, o740 P) :: (nat_lit 741, o741 P) :: (nat_lit 742, o742 P) :: (nat_lit 743, o743 P) :: (nat_lit 746, o746 P) :: (nat_lit 752, o752 P) :: (nat_lit 753, o753 P) :: (nat_lit 759, o759 P) :: (nat_lit 760, o760 P) :: (nat_lit 761, o761 P) :: (nat_lit 767, o767 P) :: (nat_lit 768, o768 P) :: (nat_lit 774, o774 P) :: (nat_lit 775, o775 P) :: (nat_lit 779, o779 P) :: (nat_lit 780, o780 P) :: (nat_lit 784, o784 P) :: (nat_lit 785, o785 P) :: (nat_lit 791, o791 P) :: (nat_lit 792, o792 P) :: (nat_lit 798, o798 P) :: (nat_lit 799, o799 P) :: (nat_lit 805, o805 P) :: (nat_lit 806, o806 P) :: (nat_lit 810, o810 P) :: (nat_lit 811, o811 P) :: []
noncomputable def Kas : List Addr := (nat_lit 2) :: (nat_lit 3) :: (nat_lit 45) :: (nat_lit 46) :: (nat_lit 52) :: (nat_lit 53) :: (nat_lit 57) :: (nat_lit 58) :: (nat_lit 71) :: (nat_lit 72) :: (nat_lit 98) :: (nat_lit 99) :: (nat_lit 101) :: (nat_lit 102) :: (nat_lit 103) :: (nat_lit 104) :: (nat_lit 105) :: (nat_lit 128) :: (nat_lit 129) :: (nat_lit 359) :: (nat_lit 369) :: (nat_lit 375) :: (nat_lit 376) :: (nat_lit 382) :: (nat_lit 383) :: (nat_lit 389) :: (nat_lit 390) :: (nat_lit 545) :: (nat_lit 551) :: (nat_lit 552) :: (nat_lit 605) :: (nat_lit 606) :: (nat_lit 658) :: (nat_lit 664) :: (nat_lit 665) :: (nat_lit 671) :: (nat_lit 672) :: (nat_lit 673) :: (nat_lit 701) :: (nat_lit 702) :: (nat_lit 708) :: (nat_lit 709) :: (nat_lit 730) :: (nat_lit 731) :: (nat_lit 737) :: (nat_lit 738) :: (nat_lit 740) :: (nat_lit 741) :: (nat_lit 742) :: (nat_lit 743) :: (nat_lit 746) :: (nat_lit 752) :: (nat_lit 753) :: (nat_lit 759) :: (nat_lit 760) :: (nat_lit 761) :: (nat_lit 767) :: (nat_lit 768) :: (nat_lit 774) :: (nat_lit 775) :: (nat_lit 779) :: (nat_lit 780) :: (nat_lit 784) :: (nat_lit 785) :: (nat_lit 791) :: (nat_lit 792) :: (nat_lit 798) :: (nat_lit 799) :: (nat_lit 805) :: (nat_lit 806) :: (nat_lit 810) :: (nat_lit 811) :: []
noncomputable def loose : List Str := [⟨#[95, 105, 110, 105, 116, 105, 97, 108, 95, 109, 105, 115, 115, 105, 110, 103]⟩, ⟨#[114, 101, 100, 117, 99, 101]⟩, ⟨#[95, 116, 119, 105, 110, 95, 114, 101, 95, 49]⟩, ⟨#[85, 110, 115, 117, 112, 112, 111, 114, 116, 101, 100, 79, 112, 101, 114, 97, 116, 105, 111, 110]⟩, ⟨#[73, 79, 66, 97, 115, 101]⟩, ⟨#[66, 117, 102, 102, 101, 114, 101, 100, 73, 79, 66, 97, 115, 101]⟩, ⟨#[84, 101, 120, 116, 73, 79, 66, 97, 115, 101]⟩, ⟨#[66, 121, 116, 101, 115, 73, 79]⟩, ⟨#[83, 116, 114, 105, 110, 103, 73, 79]⟩, ⟨#[106, 111, 105, 110, 95, 112, 97, 116, 104]⟩, ⟨#[115, 104, 108, 101, 120]⟩, ⟨#[115, 112, 108, 105, 116]⟩, ⟨#[106, 111, 105, 110, 95, 115, 104, 108, 101, 120]⟩, ⟨#[95, 102, 105, 110, 100, 95, 117, 110, 115, 97, 102, 101]⟩]
abbrev keep : List Nat := [0, 1, 2, 4, 6, 8, 9, 10, 11, 12, 13, 14, 15, 17, 18, 19, 20, 22, 23, 25, 27, 28, 29, 30, 32, 34, 35, 36, 37, 38, 39]
end
-- Head2
section
namespace Hd
set_option maxHeartbeats 0
noncomputable def xT (i : Nat) : Stmt := PySem.Challenge.pw_op0211_01.main.body.getD i (.Pass ⟨0, 0, 0, 0⟩)
noncomputable def xC (i j : Nat) : Stmt := match xT i with
  | .ClassDef _ _ _ b _ _ _ _ _ _ _ => b.getD j (.Pass ⟨0, 0, 0, 0⟩)
  | _ => .Pass ⟨0, 0, 0, 0⟩
noncomputable def fnX (st : Stmt) (qual : Str) (dflt pm : Value) (code : Addr) : Obj := match st with
  | .FunctionDef name args body _ _ _ scope _ _ _ => { cls := .type PySem.W.SL.s7174869446012820540x8, data := .func { name := name, qualname := qual, params := args, body := .stmts body, scope := scope, globals := 3, closure := [], defaults := dflt, kwdefaults := .none, pyModule := pm, code := .ref code } }
  | _ => default
noncomputable def fnY (st : Stmt) (qual : Str) : Obj := match st with
  | .FunctionDef name args body _ _ _ scope _ _ _ => { cls := .none, data := .func { name := name, qualname := qual, params := args, body := .stmts body, scope := scope, globals := 0, closure := [], defaults := .none, kwdefaults := .none } }
  | _ => default
noncomputable def s0 : Str := ⟨#[95, 95, 110, 97, 109, 101, 95, 95]⟩
noncomputable def s1 : Str := ⟨#[98, 117, 105, 108, 116, 105, 110, 115]⟩
noncomputable def s2 : Str := ⟨#[95, 95, 100, 111, 99, 95, 95]⟩
noncomputable def s3 : Str := ⟨#[95, 95, 112, 97, 99, 107, 97, 103, 101, 95, 95]⟩
noncomputable def s4 : Str := ⟨#[95, 95, 108, 111, 97, 100, 101, 114, 95, 95]⟩
noncomputable def s5 : Str := ⟨#[95, 95, 115, 112, 101, 99, 95, 95]⟩
noncomputable def s6 : Str := ⟨#[95, 95, 98, 117, 105, 108, 100, 95, 99, 108, 97, 115, 115, 95, 95]⟩
noncomputable def s7 : Str := ⟨#[95, 95, 105, 109, 112, 111, 114, 116, 95, 95]⟩
noncomputable def s8 : Str := ⟨#[97, 98, 115]⟩
noncomputable def s9 : Str := ⟨#[97, 108, 108]⟩
noncomputable def s10 : Str := ⟨#[97, 110, 121]⟩
noncomputable def s11 : Str := ⟨#[97, 115, 99, 105, 105]⟩
noncomputable def s12 : Str := ⟨#[98, 105, 110]⟩
noncomputable def s13 : Str := ⟨#[98, 114, 101, 97, 107, 112, 111, 105, 110, 116]⟩
noncomputable def s14 : Str := ⟨#[99, 97, 108, 108, 97, 98, 108, 101]⟩
noncomputable def s15 : Str := ⟨#[99, 104, 114]⟩
noncomputable def s16 : Str := ⟨#[99, 111, 109, 112, 105, 108, 101]⟩
noncomputable def s17 : Str := ⟨#[100, 101, 108, 97, 116, 116, 114]⟩
noncomputable def s18 : Str := ⟨#[100, 105, 114]⟩
noncomputable def s19 : Str := ⟨#[100, 105, 118, 109, 111, 100]⟩
noncomputable def s20 : Str := ⟨#[101, 118, 97, 108]⟩
noncomputable def s21 : Str := ⟨#[101, 120, 101, 99]⟩
noncomputable def s22 : Str := ⟨#[102, 111, 114, 109, 97, 116]⟩
noncomputable def s23 : Str := ⟨#[103, 101, 116, 97, 116, 116, 114]⟩
noncomputable def s24 : Str := ⟨#[103, 108, 111, 98, 97, 108, 115]⟩
noncomputable def s25 : Str := ⟨#[104, 97, 115, 97, 116, 116, 114]⟩
noncomputable def s26 : Str := ⟨#[104, 97, 115, 104]⟩
noncomputable def s27 : Str := ⟨#[104, 101, 120]⟩
noncomputable def s28 : Str := ⟨#[105, 100]⟩
noncomputable def s29 : Str := ⟨#[105, 110, 112, 117, 116]⟩
noncomputable def s30 : Str := ⟨#[105, 115, 105, 110, 115, 116, 97, 110, 99, 101]⟩
noncomputable def s31 : Str := ⟨#[105, 115, 115, 117, 98, 99, 108, 97, 115, 115]⟩
noncomputable def s32 : Str := ⟨#[105, 116, 101, 114]⟩
noncomputable def s33 : Str := ⟨#[97, 105, 116, 101, 114]⟩
noncomputable def s34 : Str := ⟨#[108, 101, 110]⟩
noncomputable def s35 : Str := ⟨#[108, 111, 99, 97, 108, 115]⟩
noncomputable def s36 : Str := ⟨#[109, 97, 120]⟩
noncomputable def s37 : Str := ⟨#[109, 105, 110]⟩
noncomputable def s38 : Str := ⟨#[110, 101, 120, 116]⟩
noncomputable def s39 : Str := ⟨#[97, 110, 101, 120, 116]⟩
noncomputable def s40 : Str := ⟨#[111, 99, 116]⟩
noncomputable def s41 : Str := ⟨#[111, 114, 100]⟩
noncomputable def s42 : Str := ⟨#[112, 111, 119]⟩
noncomputable def s43 : Str := ⟨#[112, 114, 105, 110, 116]⟩
noncomputable def s44 : Str := ⟨#[114, 101, 112, 114]⟩
noncomputable def s45 : Str := ⟨#[114, 111, 117, 110, 100]⟩
noncomputable def s46 : Str := ⟨#[115, 101, 116, 97, 116, 116, 114]⟩
noncomputable def s47 : Str := ⟨#[115, 111, 114, 116, 101, 100]⟩
noncomputable def s48 : Str := ⟨#[115, 117, 109]⟩
noncomputable def s49 : Str := ⟨#[118, 97, 114, 115]⟩
noncomputable def s50 : Str := ⟨#[78, 111, 110, 101]⟩
noncomputable def s51 : Str := ⟨#[69, 108, 108, 105, 112, 115, 105, 115]⟩
noncomputable def s52 : Str := ⟨#[78, 111, 116, 73, 109, 112, 108, 101, 109, 101, 110, 116, 101, 100]⟩
noncomputable def s53 : Str := ⟨#[70, 97, 108, 115, 101]⟩
noncomputable def s54 : Str := ⟨#[84, 114, 117, 101]⟩
noncomputable def s55 : Str := ⟨#[98, 111, 111, 108]⟩
noncomputable def s56 : Str := ⟨#[109, 101, 109, 111, 114, 121, 118, 105, 101, 119]⟩
noncomputable def s57 : Str := ⟨#[98, 121, 116, 101, 97, 114, 114, 97, 121]⟩
noncomputable def s58 : Str := ⟨#[98, 121, 116, 101, 115]⟩
noncomputable def s59 : Str := ⟨#[99, 108, 97, 115, 115, 109, 101, 116, 104, 111, 100]⟩
noncomputable def s60 : Str := ⟨#[99, 111, 109, 112, 108, 101, 120]⟩
noncomputable def s61 : Str := ⟨#[100, 105, 99, 116]⟩
noncomputable def s62 : Str := ⟨#[101, 110, 117, 109, 101, 114, 97, 116, 101]⟩
noncomputable def s63 : Str := ⟨#[102, 105, 108, 116, 101, 114]⟩
noncomputable def s64 : Str := ⟨#[102, 108, 111, 97, 116]⟩
noncomputable def s65 : Str := ⟨#[102, 114, 111, 122, 101, 110, 115, 101, 116]⟩
noncomputable def s66 : Str := ⟨#[112, 114, 111, 112, 101, 114, 116, 121]⟩
noncomputable def s67 : Str := ⟨#[105, 110, 116]⟩
noncomputable def s68 : Str := ⟨#[108, 105, 115, 116]⟩
noncomputable def s69 : Str := ⟨#[109, 97, 112]⟩
noncomputable def s70 : Str := ⟨#[111, 98, 106, 101, 99, 116]⟩
noncomputable def s71 : Str := ⟨#[114, 97, 110, 103, 101]⟩
noncomputable def s72 : Str := ⟨#[114, 101, 118, 101, 114, 115, 101, 100]⟩
noncomputable def s73 : Str := ⟨#[115, 101, 116]⟩
noncomputable def s74 : Str := ⟨#[115, 108, 105, 99, 101]⟩
noncomputable def s75 : Str := ⟨#[115, 116, 97, 116, 105, 99, 109, 101, 116, 104, 111, 100]⟩
noncomputable def s76 : Str := ⟨#[115, 116, 114]⟩
noncomputable def s77 : Str := ⟨#[115, 117, 112, 101, 114]⟩
noncomputable def s78 : Str := ⟨#[116, 117, 112, 108, 101]⟩
noncomputable def s79 : Str := ⟨#[116, 121, 112, 101]⟩
noncomputable def s80 : Str := ⟨#[122, 105, 112]⟩
noncomputable def s81 : Str := ⟨#[95, 95, 100, 101, 98, 117, 103, 95, 95]⟩
noncomputable def s82 : Str := ⟨#[66, 97, 115, 101, 69, 120, 99, 101, 112, 116, 105, 111, 110]⟩
noncomputable def s83 : Str := ⟨#[66, 97, 115, 101, 69, 120, 99, 101, 112, 116, 105, 111, 110, 71, 114, 111, 117, 112]⟩
noncomputable def s84 : Str := ⟨#[69, 120, 99, 101, 112, 116, 105, 111, 110]⟩
noncomputable def s85 : Str := ⟨#[71, 101, 110, 101, 114, 97, 116, 111, 114, 69, 120, 105, 116]⟩
noncomputable def s86 : Str := ⟨#[75, 101, 121, 98, 111, 97, 114, 100, 73, 110, 116, 101, 114, 114, 117, 112, 116]⟩
noncomputable def s87 : Str := ⟨#[83, 121, 115, 116, 101, 109, 69, 120, 105, 116]⟩
noncomputable def s88 : Str := ⟨#[65, 114, 105, 116, 104, 109, 101, 116, 105, 99, 69, 114, 114, 111, 114]⟩
noncomputable def s89 : Str := ⟨#[65, 115, 115, 101, 114, 116, 105, 111, 110, 69, 114, 114, 111, 114]⟩
noncomputable def s90 : Str := ⟨#[65, 116, 116, 114, 105, 98, 117, 116, 101, 69, 114, 114, 111, 114]⟩
noncomputable def s91 : Str := ⟨#[66, 117, 102, 102, 101, 114, 69, 114, 114, 111, 114]⟩
noncomputable def s92 : Str := ⟨#[69, 79, 70, 69, 114, 114, 111, 114]⟩
noncomputable def s93 : Str := ⟨#[73, 109, 112, 111, 114, 116, 69, 114, 114, 111, 114]⟩
noncomputable def s94 : Str := ⟨#[76, 111, 111, 107, 117, 112, 69, 114, 114, 111, 114]⟩
noncomputable def s95 : Str := ⟨#[77, 101, 109, 111, 114, 121, 69, 114, 114, 111, 114]⟩
noncomputable def s96 : Str := ⟨#[78, 97, 109, 101, 69, 114, 114, 111, 114]⟩
noncomputable def s97 : Str := ⟨#[79, 83, 69, 114, 114, 111, 114]⟩
noncomputable def s98 : Str := ⟨#[82, 101, 102, 101, 114, 101, 110, 99, 101, 69, 114, 114, 111, 114]⟩
noncomputable def s99 : Str := ⟨#[82, 117, 110, 116, 105, 109, 101, 69, 114, 114, 111, 114]⟩
noncomputable def s100 : Str := ⟨#[83, 116, 111, 112, 65, 115, 121, 110, 99, 73, 116, 101, 114, 97, 116, 105, 111, 110]⟩
noncomputable def s101 : Str := ⟨#[83, 116, 111, 112, 73, 116, 101, 114, 97, 116, 105, 111, 110]⟩
noncomputable def s102 : Str := ⟨#[83, 121, 110, 116, 97, 120, 69, 114, 114, 111, 114]⟩
noncomputable def s103 : Str := ⟨#[83, 121, 115, 116, 101, 109, 69, 114, 114, 111, 114]⟩
noncomputable def s104 : Str := ⟨#[84, 121, 112, 101, 69, 114, 114, 111, 114]⟩
noncomputable def s105 : Str := ⟨#[86, 97, 108, 117, 101, 69, 114, 114, 111, 114]⟩
noncomputable def s106 : Str := ⟨#[87, 97, 114, 110, 105, 110, 103]⟩
noncomputable def s107 : Str := ⟨#[70, 108, 111, 97, 116, 105, 110, 103, 80, 111, 105, 110, 116, 69, 114, 114, 111, 114]⟩
noncomputable def s108 : Str := ⟨#[79, 118, 101, 114, 102, 108, 111, 119, 69, 114, 114, 111, 114]⟩
noncomputable def s109 : Str := ⟨#[90, 101, 114, 111, 68, 105, 118, 105, 115, 105, 111, 110, 69, 114, 114, 111, 114]⟩
noncomputable def s110 : Str := ⟨#[66, 121, 116, 101, 115, 87, 97, 114, 110, 105, 110, 103]⟩
noncomputable def s111 : Str := ⟨#[68, 101, 112, 114, 101, 99, 97, 116, 105, 111, 110, 87, 97, 114, 110, 105, 110, 103]⟩
noncomputable def s112 : Str := ⟨#[69, 110, 99, 111, 100, 105, 110, 103, 87, 97, 114, 110, 105, 110, 103]⟩
noncomputable def s113 : Str := ⟨#[70, 117, 116, 117, 114, 101, 87, 97, 114, 110, 105, 110, 103]⟩
noncomputable def s114 : Str := ⟨#[73, 109, 112, 111, 114, 116, 87, 97, 114, 110, 105, 110, 103]⟩
noncomputable def s115 : Str := ⟨#[80, 101, 110, 100, 105, 110, 103, 68, 101, 112, 114, 101, 99, 97, 116, 105, 111, 110, 87, 97, 114, 110, 105, 110, 103]⟩
noncomputable def s116 : Str := ⟨#[82, 101, 115, 111, 117, 114, 99, 101, 87, 97, 114, 110, 105, 110, 103]⟩
noncomputable def s117 : Str := ⟨#[82, 117, 110, 116, 105, 109, 101, 87, 97, 114, 110, 105, 110, 103]⟩
noncomputable def s118 : Str := ⟨#[83, 121, 110, 116, 97, 120, 87, 97, 114, 110, 105, 110, 103]⟩
noncomputable def s119 : Str := ⟨#[85, 110, 105, 99, 111, 100, 101, 87, 97, 114, 110, 105, 110, 103]⟩
noncomputable def s120 : Str := ⟨#[85, 115, 101, 114, 87, 97, 114, 110, 105, 110, 103]⟩
noncomputable def s121 : Str := ⟨#[66, 108, 111, 99, 107, 105, 110, 103, 73, 79, 69, 114, 114, 111, 114]⟩
noncomputable def s122 : Str := ⟨#[67, 104, 105, 108, 100, 80, 114, 111, 99, 101, 115, 115, 69, 114, 114, 111, 114]⟩
noncomputable def s123 : Str := ⟨#[67, 111, 110, 110, 101, 99, 116, 105, 111, 110, 69, 114, 114, 111, 114]⟩
noncomputable def s124 : Str := ⟨#[70, 105, 108, 101, 69, 120, 105, 115, 116, 115, 69, 114, 114, 111, 114]⟩
noncomputable def s125 : Str := ⟨#[70, 105, 108, 101, 78, 111, 116, 70, 111, 117, 110, 100, 69, 114, 114, 111, 114]⟩
noncomputable def s126 : Str := ⟨#[73, 110, 116, 101, 114, 114, 117, 112, 116, 101, 100, 69, 114, 114, 111, 114]⟩
noncomputable def s127 : Str := ⟨#[73, 115, 65, 68, 105, 114, 101, 99, 116, 111, 114, 121, 69, 114, 114, 111, 114]⟩
noncomputable def s128 : Str := ⟨#[78, 111, 116, 65, 68, 105, 114, 101, 99, 116, 111, 114, 121, 69, 114, 114, 111, 114]⟩
noncomputable def s129 : Str := ⟨#[80, 101, 114, 109, 105, 115, 115, 105, 111, 110, 69, 114, 114, 111, 114]⟩
noncomputable def s130 : Str := ⟨#[80, 114, 111, 99, 101, 115, 115, 76, 111, 111, 107, 117, 112, 69, 114, 114, 111, 114]⟩
noncomputable def s131 : Str := ⟨#[84, 105, 109, 101, 111, 117, 116, 69, 114, 114, 111, 114]⟩
noncomputable def s132 : Str := ⟨#[73, 110, 100, 101, 110, 116, 97, 116, 105, 111, 110, 69, 114, 114, 111, 114]⟩
noncomputable def s133 : Str := ⟨#[95, 73, 110, 99, 111, 109, 112, 108, 101, 116, 101, 73, 110, 112, 117, 116, 69, 114, 114, 111, 114]⟩
noncomputable def s134 : Str := ⟨#[73, 110, 100, 101, 120, 69, 114, 114, 111, 114]⟩
noncomputable def s135 : Str := ⟨#[75, 101, 121, 69, 114, 114, 111, 114]⟩
noncomputable def s136 : Str := ⟨#[77, 111, 100, 117, 108, 101, 78, 111, 116, 70, 111, 117, 110, 100, 69, 114, 114, 111, 114]⟩
noncomputable def s137 : Str := ⟨#[78, 111, 116, 73, 109, 112, 108, 101, 109, 101, 110, 116, 101, 100, 69, 114, 114, 111, 114]⟩
noncomputable def s138 : Str := ⟨#[80, 121, 116, 104, 111, 110, 70, 105, 110, 97, 108, 105, 122, 97, 116, 105, 111, 110, 69, 114, 114, 111, 114]⟩
noncomputable def s139 : Str := ⟨#[82, 101, 99, 117, 114, 115, 105, 111, 110, 69, 114, 114, 111, 114]⟩
noncomputable def s140 : Str := ⟨#[85, 110, 98, 111, 117, 110, 100, 76, 111, 99, 97, 108, 69, 114, 114, 111, 114]⟩
noncomputable def s141 : Str := ⟨#[85, 110, 105, 99, 111, 100, 101, 69, 114, 114, 111, 114]⟩
noncomputable def s142 : Str := ⟨#[66, 114, 111, 107, 101, 110, 80, 105, 112, 101, 69, 114, 114, 111, 114]⟩
noncomputable def s143 : Str := ⟨#[67, 111, 110, 110, 101, 99, 116, 105, 111, 110, 65, 98, 111, 114, 116, 101, 100, 69, 114, 114, 111, 114]⟩
noncomputable def s144 : Str := ⟨#[67, 111, 110, 110, 101, 99, 116, 105, 111, 110, 82, 101, 102, 117, 115, 101, 100, 69, 114, 114, 111, 114]⟩
noncomputable def s145 : Str := ⟨#[67, 111, 110, 110, 101, 99, 116, 105, 111, 110, 82, 101, 115, 101, 116, 69, 114, 114, 111, 114]⟩
noncomputable def s146 : Str := ⟨#[84, 97, 98, 69, 114, 114, 111, 114]⟩
noncomputable def s147 : Str := ⟨#[85, 110, 105, 99, 111, 100, 101, 68, 101, 99, 111, 100, 101, 69, 114, 114, 111, 114]⟩
noncomputable def s148 : Str := ⟨#[85, 110, 105, 99, 111, 100, 101, 69, 110, 99, 111, 100, 101, 69, 114, 114, 111, 114]⟩
noncomputable def s149 : Str := ⟨#[85, 110, 105, 99, 111, 100, 101, 84, 114, 97, 110, 115, 108, 97, 116, 101, 69, 114, 114, 111, 114]⟩
noncomputable def s150 : Str := ⟨#[69, 120, 99, 101, 112, 116, 105, 111, 110, 71, 114, 111, 117, 112]⟩
noncomputable def s151 : Str := ⟨#[69, 110, 118, 105, 114, 111, 110, 109, 101, 110, 116, 69, 114, 114, 111, 114]⟩
noncomputable def s152 : Str := ⟨#[73, 79, 69, 114, 114, 111, 114]⟩
noncomputable def s153 : Str := ⟨#[111, 112, 101, 110]⟩
noncomputable def s154 : Str := ⟨#[113, 117, 105, 116]⟩
noncomputable def s155 : Str := ⟨#[101, 120, 105, 116]⟩
noncomputable def s156 : Str := ⟨#[99, 111, 112, 121, 114, 105, 103, 104, 116]⟩
noncomputable def s157 : Str := ⟨#[99, 114, 101, 100, 105, 116, 115]⟩
noncomputable def s158 : Str := ⟨#[108, 105, 99, 101, 110, 115, 101]⟩
noncomputable def s159 : Str := ⟨#[104, 101, 108, 112]⟩
noncomputable def s160 : Str := ⟨#[95, 95, 109, 97, 105, 110, 95, 95]⟩
noncomputable def s161 : Str := ⟨#[95, 115, 114, 101]⟩
noncomputable def s162 : Str := ⟨#[95, 99, 111, 108, 108, 101, 99, 116, 105, 111, 110, 115]⟩
noncomputable def s163 : Str := ⟨#[105, 109, 112, 111, 114, 116, 46, 108, 111, 97, 100, 101, 100, 46, 95, 115, 114, 101]⟩
noncomputable def s164 : Str := ⟨#[99, 108, 97, 115, 115, 46, 95, 102, 114, 111, 122, 101, 110, 95, 105, 109, 112, 111, 114, 116, 108, 105, 98, 46, 66, 117, 105, 108, 116, 105, 110, 73, 109, 112, 111, 114, 116, 101, 114]⟩
noncomputable def s165 : Str := ⟨#[119, 97, 116, 99, 104, 101, 100, 46, 105, 109, 112, 111, 114, 116]⟩
noncomputable def s166 : Str := ⟨#[99, 108, 97, 115, 115, 46, 95, 102, 114, 111, 122, 101, 110, 95, 105, 109, 112, 111, 114, 116, 108, 105, 98, 46, 77, 111, 100, 117, 108, 101, 83, 112, 101, 99]⟩
noncomputable def s167 : Str := ⟨#[115, 121, 115, 46, 109, 111, 100, 117, 108, 101, 115, 46, 98, 111, 111, 107, 101, 100, 45, 101, 112, 111, 99, 104]⟩
noncomputable def s168 : Str := ⟨#[105, 109, 112, 111, 114, 116, 46, 108, 97, 116, 101, 114, 45, 108, 97, 105, 100, 46, 95, 115, 114, 101]⟩
noncomputable def s169 : Str := ⟨#[119, 97, 116, 99, 104, 101, 100, 46, 108, 105, 98, 114, 97, 114, 121]⟩
noncomputable def s170 : Str := ⟨#[119, 97, 116, 99, 104, 101, 100, 46, 108, 105, 98, 114, 97, 114, 121, 45, 111, 98, 106, 101, 99, 116, 115]⟩
noncomputable def s171 : Str := ⟨#[12, 30]⟩
noncomputable def s172 : Str := ⟨#[119, 97, 116, 99, 104, 101, 100, 46, 108, 105, 98, 114, 97, 114, 121, 45, 100, 101, 101, 112, 46, 95, 115, 114, 101]⟩
noncomputable def s173 : Str := ⟨#[4, 0, 0, 11, 4, 0, 0, 11, 4, 0, 0, 3, 4, 0, 0, 11, 8, 4, 100, 105, 99, 116, 2]⟩
noncomputable def s174 : Str := ⟨#[105, 109, 112, 111, 114, 116, 46, 108, 111, 97, 100, 101, 100, 46, 95, 99, 111, 108, 108, 101, 99, 116, 105, 111, 110, 115]⟩
noncomputable def s175 : Str := ⟨#[115, 121, 115, 46, 109, 111, 100, 117, 108, 101, 115, 46, 108, 97, 110, 100, 101, 100, 46, 95, 99, 111, 108, 108, 101, 99, 116, 105, 111, 110, 115]⟩
noncomputable def s176 : Str := ⟨#[105, 109, 112, 111, 114, 116, 46, 108, 97, 116, 101, 114, 45, 108, 97, 105, 100, 46, 95, 99, 111, 108, 108, 101, 99, 116, 105, 111, 110, 115]⟩
noncomputable def s177 : Str := ⟨#[119, 97, 116, 99, 104, 101, 100, 46, 108, 105, 98, 114, 97, 114, 121, 45, 100, 101, 101, 112, 46, 95, 99, 111, 108, 108, 101, 99, 116, 105, 111, 110, 115]⟩
noncomputable def s178 : Str := ⟨#[4, 0, 0, 29, 4, 0, 0, 29, 4, 0, 0, 3, 4, 0, 0, 29, 8, 4, 100, 105, 99, 116, 2]⟩
noncomputable def s179 : Str := ⟨#[95, 95, 97, 110, 110, 111, 116, 97, 116, 105, 111, 110, 115, 95, 95]⟩
noncomputable def s180 : Str := ⟨#[95, 95, 98, 117, 105, 108, 116, 105, 110, 115, 95, 95]⟩
noncomputable def s181 : Str := ⟨#[95, 95, 102, 105, 108, 101, 95, 95]⟩
noncomputable def s182 : Str := ⟨#[47, 99, 108, 97, 105, 109, 47, 99, 117, 116, 46, 112, 121]⟩
noncomputable def s183 : Str := ⟨#[95, 95, 99, 97, 99, 104, 101, 100, 95, 95]⟩
noncomputable def s184 : Str := ⟨#[100, 101, 113, 117, 101]⟩
noncomputable def s185 : Str := ⟨#[60, 109, 111, 100, 117, 108, 101, 62]⟩
noncomputable def s186 : Str := ⟨#[]⟩
noncomputable def s187 : Str := ⟨#[116, 101, 109, 112, 108, 97, 116, 101]⟩
noncomputable def s188 : Str := ⟨#[103, 101, 116, 99, 111, 100, 101, 115, 105, 122, 101]⟩
noncomputable def s189 : Str := ⟨#[97, 115, 99, 105, 105, 95, 105, 115, 99, 97, 115, 101, 100]⟩
noncomputable def s190 : Str := ⟨#[117, 110, 105, 99, 111, 100, 101, 95, 105, 115, 99, 97, 115, 101, 100]⟩
noncomputable def s191 : Str := ⟨#[97, 115, 99, 105, 105, 95, 116, 111, 108, 111, 119, 101, 114]⟩
noncomputable def s192 : Str := ⟨#[117, 110, 105, 99, 111, 100, 101, 95, 116, 111, 108, 111, 119, 101, 114]⟩
noncomputable def s193 : Str := ⟨#[77, 65, 71, 73, 67]⟩
noncomputable def s194 : Str := ⟨#[67, 79, 68, 69, 83, 73, 90, 69]⟩
noncomputable def s195 : Str := ⟨#[77, 65, 88, 82, 69, 80, 69, 65, 84]⟩
noncomputable def s196 : Str := ⟨#[77, 65, 88, 71, 82, 79, 85, 80, 83]⟩
noncomputable def s197 : Str := ⟨#[32, 83, 82, 69, 32, 50, 46, 50, 46, 50, 32, 67, 111, 112, 121, 114, 105, 103, 104, 116, 32, 40, 99, 41, 32, 49, 57, 57, 55, 45, 50, 48, 48, 50, 32, 98, 121, 32, 83, 101, 99, 114, 101, 116, 32, 76, 97, 98, 115, 32, 65, 66, 32]⟩
noncomputable def s198 : Str := ⟨#[95, 95, 109, 111, 100, 117, 108, 101, 95, 95]⟩
noncomputable def s199 : Str := ⟨#[95, 102, 114, 111, 122, 101, 110, 95, 105, 109, 112, 111, 114, 116, 108, 105, 98]⟩
noncomputable def s200 : Str := ⟨#[95, 95, 102, 105, 114, 115, 116, 108, 105, 110, 101, 110, 111, 95, 95]⟩
noncomputable def s201 : Str := ⟨#[95, 79, 82, 73, 71, 73, 78]⟩
noncomputable def s202 : Str := ⟨#[98, 117, 105, 108, 116, 45, 105, 110]⟩
noncomputable def s203 : Str := ⟨#[102, 105, 110, 100, 95, 115, 112, 101, 99]⟩
noncomputable def s204 : Str := ⟨#[99, 114, 101, 97, 116, 101, 95, 109, 111, 100, 117, 108, 101]⟩
noncomputable def s205 : Str := ⟨#[101, 120, 101, 99, 95, 109, 111, 100, 117, 108, 101]⟩
noncomputable def s206 : Str := ⟨#[103, 101, 116, 95, 99, 111, 100, 101]⟩
noncomputable def s207 : Str := ⟨#[103, 101, 116, 95, 115, 111, 117, 114, 99, 101]⟩
noncomputable def s208 : Str := ⟨#[105, 115, 95, 112, 97, 99, 107, 97, 103, 101]⟩
noncomputable def s209 : Str := ⟨#[108, 111, 97, 100, 95, 109, 111, 100, 117, 108, 101]⟩
noncomputable def s210 : Str := ⟨#[95, 95, 115, 116, 97, 116, 105, 99, 95, 97, 116, 116, 114, 105, 98, 117, 116, 101, 115, 95, 95]⟩
noncomputable def s211 : Str := ⟨#[95, 95, 100, 105, 99, 116, 95, 95]⟩
noncomputable def s212 : Str := ⟨#[95, 95, 119, 101, 97, 107, 114, 101, 102, 95, 95]⟩
noncomputable def s213 : Str := ⟨#[66, 117, 105, 108, 116, 105, 110, 73, 109, 112, 111, 114, 116, 101, 114]⟩
noncomputable def s214 : Str := ⟨#[6, 189, 10, 95, 95, 109, 111, 100, 117, 108, 101, 95, 95, 6, 186, 17, 95, 102, 114, 111, 122, 101, 110, 95, 105, 109, 112, 111, 114, 116, 108, 105, 98, 6, 190, 15, 95, 95, 102, 105, 114, 115, 116, 108, 105, 110, 101, 110, 111, 95, 95, 4, 187, 0, 971, 6, 191, 7, 95, 95, 100, 111, 99, 95, 95, 9, 52, 95, 102, 114, 111, 122, 101, 110, 95, 105, 109, 112, 111, 114, 116, 108, 105, 98, 46, 66, 117, 105, 108, 116, 105, 110, 73, 109, 112, 111, 114, 116, 101, 114, 46, 95, 95, 100, 111, 99, 95, 95, 58, 115, 116, 114, 35, 111, 112, 97, 113, 117, 101, 6, 192, 7, 95, 79, 82, 73, 71, 73, 78, 6, 188, 8, 98, 117, 105, 108, 116, 45, 105, 110, 6, 193, 9, 102, 105, 110, 100, 95, 115, 112, 101, 99, 9, 50, 95, 102, 114, 111, 122, 101, 110, 95, 105, 109, 112, 111, 114, 116, 108, 105, 98, 46, 66, 117, 105, 108, 116, 105, 110, 73, 109, 112, 111, 114, 116, 101, 114, 46, 102, 105, 110, 100, 95, 115, 112, 101, 99, 35, 111, 112, 97, 113, 117, 101, 6, 194, 13, 99, 114, 101, 97, 116, 101, 95, 109, 111, 100, 117, 108, 101, 9, 54, 95, 102, 114, 111, 122, 101, 110, 95, 105, 109, 112, 111, 114, 116, 108, 105, 98, 46, 66, 117, 105, 108, 116, 105, 110, 73, 109, 112, 111, 114, 116, 101, 114, 46, 99, 114, 101, 97, 116, 101, 95, 109, 111, 100, 117, 108, 101, 35, 111, 112, 97, 113, 117, 101, 6, 195, 11, 101, 120, 101, 99, 95, 109, 111, 100, 117, 108, 101, 9, 52, 95, 102, 114, 111, 122, 101, 110, 95, 105, 109, 112, 111, 114, 116, 108, 105, 98, 46, 66, 117, 105, 108, 116, 105, 110, 73, 109, 112, 111, 114, 116, 101, 114, 46, 101, 120, 101, 99, 95, 109, 111, 100, 117, 108, 101, 35, 111, 112, 97, 113, 117, 101, 6, 196, 8, 103, 101, 116, 95, 99, 111, 100, 101, 9, 49, 95, 102, 114, 111, 122, 101, 110, 95, 105, 109, 112, 111, 114, 116, 108, 105, 98, 46, 66, 117, 105, 108, 116, 105, 110, 73, 109, 112, 111, 114, 116, 101, 114, 46, 103, 101, 116, 95, 99, 111, 100, 101, 35, 111, 112, 97, 113, 117, 101, 6, 197, 10, 103, 101, 116, 95, 115, 111, 117, 114, 99, 101, 9, 51, 95, 102, 114, 111, 122, 101, 110, 95, 105, 109, 112, 111, 114, 116, 108, 105, 98, 46, 66, 117, 105, 108, 116, 105, 110, 73, 109, 112, 111, 114, 116, 101, 114, 46, 103, 101, 116, 95, 115, 111, 117, 114, 99, 101, 35, 111, 112, 97, 113, 117, 101, 6, 198, 10, 105, 115, 95, 112, 97, 99, 107, 97, 103, 101, 9, 51, 95, 102, 114, 111, 122, 101, 110, 95, 105, 109, 112, 111, 114, 116, 108, 105, 98, 46, 66, 117, 105, 108, 116, 105, 110, 73, 109, 112, 111, 114, 116, 101, 114, 46, 105, 115, 95, 112, 97, 99, 107, 97, 103, 101, 35, 111, 112, 97, 113, 117, 101, 6, 199, 11, 108, 111, 97, 100, 95, 109, 111, 100, 117, 108, 101, 9, 52, 95, 102, 114, 111, 122, 101, 110, 95, 105, 109, 112, 111, 114, 116, 108, 105, 98, 46, 66, 117, 105, 108, 116, 105, 110, 73, 109, 112, 111, 114, 116, 101, 114, 46, 108, 111, 97, 100, 95, 109, 111, 100, 117, 108, 101, 35, 111, 112, 97, 113, 117, 101, 6, 200, 21, 95, 95, 115, 116, 97, 116, 105, 99, 95, 97, 116, 116, 114, 105, 98, 117, 116, 101, 115, 95, 95, 4, 0, 0, 15, 6, 202, 8, 95, 95, 100, 105, 99, 116, 95, 95, 4, 0, 0, 16, 6, 204, 11, 95, 95, 119, 101, 97, 107, 114, 101, 102, 95, 95, 4, 0, 0, 17]⟩
noncomputable def s215 : Str := ⟨#[6, 227, 10, 95, 95, 109, 111, 100, 117, 108, 101, 95, 95, 6, 217, 17, 95, 102, 114, 111, 122, 101, 110, 95, 105, 109, 112, 111, 114, 116, 108, 105, 98, 6, 228, 15, 95, 95, 102, 105, 114, 115, 116, 108, 105, 110, 101, 110, 111, 95, 95, 4, 218, 0, 562, 6, 229, 7, 95, 95, 100, 111, 99, 95, 95, 9, 47, 95, 102, 114, 111, 122, 101, 110, 95, 105, 109, 112, 111, 114, 116, 108, 105, 98, 46, 77, 111, 100, 117, 108, 101, 83, 112, 101, 99, 46, 95, 95, 100, 111, 99, 95, 95, 58, 115, 116, 114, 35, 111, 112, 97, 113, 117, 101, 6, 230, 8, 95, 95, 105, 110, 105, 116, 95, 95, 9, 44, 95, 102, 114, 111, 122, 101, 110, 95, 105, 109, 112, 111, 114, 116, 108, 105, 98, 46, 77, 111, 100, 117, 108, 101, 83, 112, 101, 99, 46, 95, 95, 105, 110, 105, 116, 95, 95, 35, 111, 112, 97, 113, 117, 101, 6, 231, 8, 95, 95, 114, 101, 112, 114, 95, 95, 9, 44, 95, 102, 114, 111, 122, 101, 110, 95, 105, 109, 112, 111, 114, 116, 108, 105, 98, 46, 77, 111, 100, 117, 108, 101, 83, 112, 101, 99, 46, 95, 95, 114, 101, 112, 114, 95, 95, 35, 111, 112, 97, 113, 117, 101, 6, 232, 6, 95, 95, 101, 113, 95, 95, 9, 42, 95, 102, 114, 111, 122, 101, 110, 95, 105, 109, 112, 111, 114, 116, 108, 105, 98, 46, 77, 111, 100, 117, 108, 101, 83, 112, 101, 99, 46, 95, 95, 101, 113, 95, 95, 35, 111, 112, 97, 113, 117, 101, 6, 233, 6, 99, 97, 99, 104, 101, 100, 9, 42, 95, 102, 114, 111, 122, 101, 110, 95, 105, 109, 112, 111, 114, 116, 108, 105, 98, 46, 77, 111, 100, 117, 108, 101, 83, 112, 101, 99, 46, 99, 97, 99, 104, 101, 100, 35, 111, 112, 97, 113, 117, 101, 6, 234, 6, 112, 97, 114, 101, 110, 116, 9, 42, 95, 102, 114, 111, 122, 101, 110, 95, 105, 109, 112, 111, 114, 116, 108, 105, 98, 46, 77, 111, 100, 117, 108, 101, 83, 112, 101, 99, 46, 112, 97, 114, 101, 110, 116, 35, 111, 112, 97, 113, 117, 101, 6, 235, 12, 104, 97, 115, 95, 108, 111, 99, 97, 116, 105, 111, 110, 9, 48, 95, 102, 114, 111, 122, 101, 110, 95, 105, 109, 112, 111, 114, 116, 108, 105, 98, 46, 77, 111, 100, 117, 108, 101, 83, 112, 101, 99, 46, 104, 97, 115, 95, 108, 111, 99, 97, 116, 105, 111, 110, 35, 111, 112, 97, 113, 117, 101, 6, 236, 21, 95, 95, 115, 116, 97, 116, 105, 99, 95, 97, 116, 116, 114, 105, 98, 117, 116, 101, 115, 95, 95, 4, 0, 0, 23, 6, 238, 8, 95, 95, 100, 105, 99, 116, 95, 95, 4, 0, 0, 24, 6, 240, 11, 95, 95, 119, 101, 97, 107, 114, 101, 102, 95, 95, 4, 0, 0, 25, 6, 241, 8, 95, 95, 104, 97, 115, 104, 95, 95, 0]⟩
noncomputable def s216 : Str := ⟨#[110, 97, 109, 101]⟩
noncomputable def s217 : Str := ⟨#[108, 111, 97, 100, 101, 114]⟩
noncomputable def s218 : Str := ⟨#[111, 114, 105, 103, 105, 110]⟩
noncomputable def s219 : Str := ⟨#[108, 111, 97, 100, 101, 114, 95, 115, 116, 97, 116, 101]⟩
noncomputable def s220 : Str := ⟨#[115, 117, 98, 109, 111, 100, 117, 108, 101, 95, 115, 101, 97, 114, 99, 104, 95, 108, 111, 99, 97, 116, 105, 111, 110, 115]⟩
noncomputable def s221 : Str := ⟨#[95, 117, 110, 105, 110, 105, 116, 105, 97, 108, 105, 122, 101, 100, 95, 115, 117, 98, 109, 111, 100, 117, 108, 101, 115]⟩
noncomputable def s222 : Str := ⟨#[95, 115, 101, 116, 95, 102, 105, 108, 101, 97, 116, 116, 114]⟩
noncomputable def s223 : Str := ⟨#[95, 99, 97, 99, 104, 101, 100]⟩
noncomputable def s224 : Str := ⟨#[95, 105, 110, 105, 116, 105, 97, 108, 105, 122, 105, 110, 103]⟩
noncomputable def s225 : Str := ⟨#[95, 95, 105, 110, 105, 116, 95, 95]⟩
noncomputable def s226 : Str := ⟨#[95, 95, 114, 101, 112, 114, 95, 95]⟩
noncomputable def s227 : Str := ⟨#[95, 95, 101, 113, 95, 95]⟩
noncomputable def s228 : Str := ⟨#[99, 97, 99, 104, 101, 100]⟩
noncomputable def s229 : Str := ⟨#[112, 97, 114, 101, 110, 116]⟩
noncomputable def s230 : Str := ⟨#[104, 97, 115, 95, 108, 111, 99, 97, 116, 105, 111, 110]⟩
noncomputable def s231 : Str := ⟨#[95, 95, 104, 97, 115, 104, 95, 95]⟩
noncomputable def s232 : Str := ⟨#[77, 111, 100, 117, 108, 101, 83, 112, 101, 99]⟩
noncomputable def s233 : Str := ⟨#[6, 247, 8, 95, 95, 110, 97, 109, 101, 95, 95, 6, 246, 4, 95, 115, 114, 101, 6, 248, 7, 95, 95, 100, 111, 99, 95, 95, 0, 6, 250, 11, 95, 95, 112, 97, 99, 107, 97, 103, 101, 95, 95, 6, 249, 0, 6, 251, 10, 95, 95, 108, 111, 97, 100, 101, 114, 95, 95, 4, 0, 0, 14, 6, 252, 8, 95, 95, 115, 112, 101, 99, 95, 95, 4, 0, 0, 26, 6, 253, 7, 99, 111, 109, 112, 105, 108, 101, 9, 12, 95, 115, 114, 101, 46, 99, 111, 109, 112, 105, 108, 101, 6, 254, 8, 116, 101, 109, 112, 108, 97, 116, 101, 9, 13, 95, 115, 114, 101, 46, 116, 101, 109, 112, 108, 97, 116, 101, 6, 255, 11, 103, 101, 116, 99, 111, 100, 101, 115, 105, 122, 101, 9, 16, 95, 115, 114, 101, 46, 103, 101, 116, 99, 111, 100, 101, 115, 105, 122, 101, 6, 256, 13, 97, 115, 99, 105, 105, 95, 105, 115, 99, 97, 115, 101, 100, 9, 18, 95, 115, 114, 101, 46, 97, 115, 99, 105, 105, 95, 105, 115, 99, 97, 115, 101, 100, 6, 257, 15, 117, 110, 105, 99, 111, 100, 101, 95, 105, 115, 99, 97, 115, 101, 100, 9, 20, 95, 115, 114, 101, 46, 117, 110, 105, 99, 111, 100, 101, 95, 105, 115, 99, 97, 115, 101, 100, 6, 258, 13, 97, 115, 99, 105, 105, 95, 116, 111, 108, 111, 119, 101, 114, 9, 18, 95, 115, 114, 101, 46, 97, 115, 99, 105, 105, 95, 116, 111, 108, 111, 119, 101, 114, 6, 259, 15, 117, 110, 105, 99, 111, 100, 101, 95, 116, 111, 108, 111, 119, 101, 114, 9, 20, 95, 115, 114, 101, 46, 117, 110, 105, 99, 111, 100, 101, 95, 116, 111, 108, 111, 119, 101, 114, 6, 261, 5, 77, 65, 71, 73, 67, 4, 260, 0, 20230612, 6, 263, 8, 67, 79, 68, 69, 83, 73, 90, 69, 4, 262, 0, 4, 6, 265, 9, 77, 65, 88, 82, 69, 80, 69, 65, 84, 4, 264, 0, 4294967295, 6, 267, 9, 77, 65, 88, 71, 82, 79, 85, 80, 83, 4, 266, 0, 1073741823, 6, 269, 9, 99, 111, 112, 121, 114, 105, 103, 104, 116, 6, 268, 53, 32, 83, 82, 69, 32, 50, 46, 50, 46, 50, 32, 67, 111, 112, 121, 114, 105, 103, 104, 116, 32, 40, 99, 41, 32, 49, 57, 57, 55, 45, 50, 48, 48, 50, 32, 98, 121, 32, 83, 101, 99, 114, 101, 116, 32, 76, 97, 98, 115, 32, 65, 66, 32]⟩
noncomputable def s234 : Str := ⟨#[6, 296, 8, 95, 95, 110, 97, 109, 101, 95, 95, 6, 295, 12, 95, 99, 111, 108, 108, 101, 99, 116, 105, 111, 110, 115, 6, 297, 7, 95, 95, 100, 111, 99, 95, 95, 9, 31, 95, 99, 111, 108, 108, 101, 99, 116, 105, 111, 110, 115, 46, 95, 95, 100, 111, 99, 95, 95, 58, 115, 116, 114, 35, 111, 112, 97, 113, 117, 101, 6, 299, 11, 95, 95, 112, 97, 99, 107, 97, 103, 101, 95, 95, 6, 298, 0, 6, 300, 10, 95, 95, 108, 111, 97, 100, 101, 114, 95, 95, 4, 0, 0, 14, 6, 301, 8, 95, 95, 115, 112, 101, 99, 95, 95, 4, 0, 0, 33, 6, 302, 15, 95, 99, 111, 117, 110, 116, 95, 101, 108, 101, 109, 101, 110, 116, 115, 9, 28, 95, 99, 111, 108, 108, 101, 99, 116, 105, 111, 110, 115, 46, 95, 99, 111, 117, 110, 116, 95, 101, 108, 101, 109, 101, 110, 116, 115, 6, 303, 5, 100, 101, 113, 117, 101, 8, 17, 99, 111, 108, 108, 101, 99, 116, 105, 111, 110, 115, 46, 100, 101, 113, 117, 101, 6, 304, 11, 100, 101, 102, 97, 117, 108, 116, 100, 105, 99, 116, 8, 23, 99, 111, 108, 108, 101, 99, 116, 105, 111, 110, 115, 46, 100, 101, 102, 97, 117, 108, 116, 100, 105, 99, 116, 6, 305, 15, 95, 100, 101, 113, 117, 101, 95, 105, 116, 101, 114, 97, 116, 111, 114, 8, 27, 99, 111, 108, 108, 101, 99, 116, 105, 111, 110, 115, 46, 95, 100, 101, 113, 117, 101, 95, 105, 116, 101, 114, 97, 116, 111, 114, 6, 306, 23, 95, 100, 101, 113, 117, 101, 95, 114, 101, 118, 101, 114, 115, 101, 95, 105, 116, 101, 114, 97, 116, 111, 114, 8, 35, 99, 111, 108, 108, 101, 99, 116, 105, 111, 110, 115, 46, 95, 100, 101, 113, 117, 101, 95, 114, 101, 118, 101, 114, 115, 101, 95, 105, 116, 101, 114, 97, 116, 111, 114, 6, 307, 12, 95, 116, 117, 112, 108, 101, 103, 101, 116, 116, 101, 114, 8, 24, 99, 111, 108, 108, 101, 99, 116, 105, 111, 110, 115, 46, 95, 116, 117, 112, 108, 101, 103, 101, 116, 116, 101, 114, 6, 308, 11, 79, 114, 100, 101, 114, 101, 100, 68, 105, 99, 116, 8, 23, 99, 111, 108, 108, 101, 99, 116, 105, 111, 110, 115, 46, 79, 114, 100, 101, 114, 101, 100, 68, 105, 99, 116]⟩
noncomputable def s235 : Str := ⟨#[95, 99, 111, 117, 110, 116, 95, 101, 108, 101, 109, 101, 110, 116, 115]⟩
noncomputable def s236 : Str := ⟨#[100, 101, 102, 97, 117, 108, 116, 100, 105, 99, 116]⟩
noncomputable def s237 : Str := ⟨#[95, 100, 101, 113, 117, 101, 95, 105, 116, 101, 114, 97, 116, 111, 114]⟩
noncomputable def s238 : Str := ⟨#[95, 100, 101, 113, 117, 101, 95, 114, 101, 118, 101, 114, 115, 101, 95, 105, 116, 101, 114, 97, 116, 111, 114]⟩
noncomputable def s239 : Str := ⟨#[95, 116, 117, 112, 108, 101, 103, 101, 116, 116, 101, 114]⟩
noncomputable def s240 : Str := ⟨#[79, 114, 100, 101, 114, 101, 100, 68, 105, 99, 116]⟩
noncomputable def s241 : Str := ⟨#[116, 121, 112, 101, 46, 95, 95, 115, 117, 98, 99, 108, 97, 115, 115, 101, 115, 95, 95, 46, 79, 83, 69, 114, 114, 111, 114, 46, 48]⟩
noncomputable def s242 : Str := ⟨#[116, 121, 112, 101, 46, 95, 95, 115, 117, 98, 99, 108, 97, 115, 115, 101, 115, 95, 95, 46, 79, 83, 69, 114, 114, 111, 114, 46, 110]⟩
noncomputable def s243 : Str := ⟨#[105, 111]⟩
noncomputable def s244 : Str := ⟨#[95, 119, 97, 108, 108]⟩
noncomputable def s245 : Str := ⟨#[95, 105, 110, 105, 116, 105, 97, 108, 95, 109, 105, 115, 115, 105, 110, 103]⟩
noncomputable def s246 : Str := ⟨#[114, 101, 100, 117, 99, 101]⟩
noncomputable def s247 : Str := ⟨#[95, 116, 119, 105, 110, 95, 114, 101, 95, 49]⟩
noncomputable def s248 : Str := ⟨#[95, 119, 104, 101, 110, 99, 101]⟩
noncomputable def s249 : Str := ⟨#[95, 105, 110, 100, 101, 120]⟩
noncomputable def s250 : Str := ⟨#[85, 110, 115, 117, 112, 112, 111, 114, 116, 101, 100, 79, 112, 101, 114, 97, 116, 105, 111, 110]⟩
noncomputable def s251 : Str := ⟨#[73, 79, 66, 97, 115, 101]⟩
noncomputable def s252 : Str := ⟨#[66, 117, 102, 102, 101, 114, 101, 100, 73, 79, 66, 97, 115, 101]⟩
noncomputable def s253 : Str := ⟨#[84, 101, 120, 116, 73, 79, 66, 97, 115, 101]⟩
noncomputable def s254 : Str := ⟨#[107]⟩
noncomputable def s255 : Str := ⟨#[102, 117, 110, 99, 116, 105, 111, 110]⟩
noncomputable def s256 : Str := ⟨#[115, 101, 113, 117, 101, 110, 99, 101]⟩
noncomputable def s257 : Str := ⟨#[105, 110, 105, 116, 105, 97, 108]⟩
noncomputable def s258 : Str := ⟨#[105, 116]⟩
noncomputable def s259 : Str := ⟨#[118, 97, 108, 117, 101]⟩
noncomputable def s260 : Str := ⟨#[101, 108, 101, 109, 101, 110, 116]⟩
noncomputable def s261 : Str := ⟨#[99, 112, 121, 51, 49, 51, 46, 102, 117, 110, 99, 116, 111, 111, 108, 115]⟩
noncomputable def s262 : Str := ⟨#[91, 94, 92, 119, 64, 37, 43, 61, 58, 44, 46, 47, 45, 93]⟩
noncomputable def s263 : Str := ⟨#[110]⟩
noncomputable def s264 : Str := ⟨#[119, 104, 97, 116]⟩
noncomputable def s265 : Str := ⟨#[95, 95, 113, 117, 97, 108, 110, 97, 109, 101, 95, 95]⟩
noncomputable def s266 : Str := ⟨#[95, 95, 110, 101, 119, 95, 95]⟩
noncomputable def s267 : Str := ⟨#[99, 108, 115]⟩
noncomputable def s268 : Str := ⟨#[97, 114, 103, 115]⟩
noncomputable def s269 : Str := ⟨#[107, 119, 97, 114, 103, 115]⟩
noncomputable def s270 : Str := ⟨#[73, 79, 66, 97, 115, 101, 46, 95, 95, 110, 101, 119, 95, 95]⟩
noncomputable def s271 : Str := ⟨#[66, 121, 116, 101, 115, 73, 79]⟩
noncomputable def s272 : Str := ⟨#[95, 105, 111]⟩
noncomputable def s273 : Str := ⟨#[95, 66, 121, 116, 101, 115, 73, 79, 95, 95, 99, 104, 101, 99, 107]⟩
noncomputable def s274 : Str := ⟨#[95, 66, 121, 116, 101, 115, 73, 79, 95, 95, 108, 105, 110, 101]⟩
noncomputable def s275 : Str := ⟨#[99, 108, 111, 115, 101, 100]⟩
noncomputable def s276 : Str := ⟨#[99, 108, 111, 115, 101]⟩
noncomputable def s277 : Str := ⟨#[95, 95, 101, 110, 116, 101, 114, 95, 95]⟩
noncomputable def s278 : Str := ⟨#[95, 95, 101, 120, 105, 116, 95, 95]⟩
noncomputable def s279 : Str := ⟨#[114, 101, 97, 100, 97, 98, 108, 101]⟩
noncomputable def s280 : Str := ⟨#[119, 114, 105, 116, 97, 98, 108, 101]⟩
noncomputable def s281 : Str := ⟨#[115, 101, 101, 107, 97, 98, 108, 101]⟩
noncomputable def s282 : Str := ⟨#[105, 115, 97, 116, 116, 121]⟩
noncomputable def s283 : Str := ⟨#[102, 108, 117, 115, 104]⟩
noncomputable def s284 : Str := ⟨#[102, 105, 108, 101, 110, 111]⟩
noncomputable def s285 : Str := ⟨#[100, 101, 116, 97, 99, 104]⟩
noncomputable def s286 : Str := ⟨#[103, 101, 116, 118, 97, 108, 117, 101]⟩
noncomputable def s287 : Str := ⟨#[103, 101, 116, 98, 117, 102, 102, 101, 114]⟩
noncomputable def s288 : Str := ⟨#[116, 101, 108, 108]⟩
noncomputable def s289 : Str := ⟨#[115, 101, 101, 107]⟩
noncomputable def s290 : Str := ⟨#[116, 114, 117, 110, 99, 97, 116, 101]⟩
noncomputable def s291 : Str := ⟨#[114, 101, 97, 100]⟩
noncomputable def s292 : Str := ⟨#[114, 101, 97, 100, 49]⟩
noncomputable def s293 : Str := ⟨#[114, 101, 97, 100, 105, 110, 116, 111]⟩
noncomputable def s294 : Str := ⟨#[114, 101, 97, 100, 105, 110, 116, 111, 49]⟩
noncomputable def s295 : Str := ⟨#[114, 101, 97, 100, 108, 105, 110, 101]⟩
noncomputable def s296 : Str := ⟨#[114, 101, 97, 100, 108, 105, 110, 101, 115]⟩
noncomputable def s297 : Str := ⟨#[95, 95, 105, 116, 101, 114, 95, 95]⟩
noncomputable def s298 : Str := ⟨#[95, 95, 110, 101, 120, 116, 95, 95]⟩
noncomputable def s299 : Str := ⟨#[119, 114, 105, 116, 101]⟩
noncomputable def s300 : Str := ⟨#[119, 114, 105, 116, 101, 108, 105, 110, 101, 115]⟩
noncomputable def s301 : Str := ⟨#[115, 101, 108, 102]⟩
noncomputable def s302 : Str := ⟨#[105, 110, 105, 116, 105, 97, 108, 95, 98, 121, 116, 101, 115]⟩
noncomputable def s303 : Str := ⟨#[66, 121, 116, 101, 115, 73, 79, 46, 95, 95, 105, 110, 105, 116, 95, 95]⟩
noncomputable def s304 : Str := ⟨#[66, 121, 116, 101, 115, 73, 79, 46, 95, 95, 99, 104, 101, 99, 107]⟩
noncomputable def s305 : Str := ⟨#[95, 95, 99, 104, 101, 99, 107]⟩
noncomputable def s306 : Str := ⟨#[108, 105, 109, 105, 116]⟩
noncomputable def s307 : Str := ⟨#[115, 116, 97, 114, 116]⟩
noncomputable def s308 : Str := ⟨#[115, 116, 111, 112]⟩
noncomputable def s309 : Str := ⟨#[105]⟩
noncomputable def s310 : Str := ⟨#[66, 121, 116, 101, 115, 73, 79, 46, 95, 95, 108, 105, 110, 101]⟩
noncomputable def s311 : Str := ⟨#[95, 95, 108, 105, 110, 101]⟩
noncomputable def s312 : Str := ⟨#[66, 121, 116, 101, 115, 73, 79, 46, 99, 108, 111, 115, 101, 100]⟩
noncomputable def s313 : Str := ⟨#[66, 121, 116, 101, 115, 73, 79, 46, 99, 108, 111, 115, 101]⟩
noncomputable def s314 : Str := ⟨#[66, 121, 116, 101, 115, 73, 79, 46, 95, 95, 101, 110, 116, 101, 114, 95, 95]⟩
noncomputable def s315 : Str := ⟨#[66, 121, 116, 101, 115, 73, 79, 46, 95, 95, 101, 120, 105, 116, 95, 95]⟩
noncomputable def s316 : Str := ⟨#[66, 121, 116, 101, 115, 73, 79, 46, 114, 101, 97, 100, 97, 98, 108, 101]⟩
noncomputable def s317 : Str := ⟨#[66, 121, 116, 101, 115, 73, 79, 46, 119, 114, 105, 116, 97, 98, 108, 101]⟩
noncomputable def s318 : Str := ⟨#[66, 121, 116, 101, 115, 73, 79, 46, 115, 101, 101, 107, 97, 98, 108, 101]⟩
noncomputable def s319 : Str := ⟨#[66, 121, 116, 101, 115, 73, 79, 46, 105, 115, 97, 116, 116, 121]⟩
noncomputable def s320 : Str := ⟨#[66, 121, 116, 101, 115, 73, 79, 46, 102, 108, 117, 115, 104]⟩
noncomputable def s321 : Str := ⟨#[66, 121, 116, 101, 115, 73, 79, 46, 102, 105, 108, 101, 110, 111]⟩
noncomputable def s322 : Str := ⟨#[66, 121, 116, 101, 115, 73, 79, 46, 100, 101, 116, 97, 99, 104]⟩
noncomputable def s323 : Str := ⟨#[66, 121, 116, 101, 115, 73, 79, 46, 103, 101, 116, 118, 97, 108, 117, 101]⟩
noncomputable def s324 : Str := ⟨#[66, 121, 116, 101, 115, 73, 79, 46, 103, 101, 116, 98, 117, 102, 102, 101, 114]⟩
noncomputable def s325 : Str := ⟨#[66, 121, 116, 101, 115, 73, 79, 46, 116, 101, 108, 108]⟩
noncomputable def s326 : Str := ⟨#[112, 111, 115]⟩
noncomputable def s327 : Str := ⟨#[119, 104, 101, 110, 99, 101]⟩
noncomputable def s328 : Str := ⟨#[66, 121, 116, 101, 115, 73, 79, 46, 115, 101, 101, 107]⟩
noncomputable def s329 : Str := ⟨#[115, 105, 122, 101]⟩
noncomputable def s330 : Str := ⟨#[66, 121, 116, 101, 115, 73, 79, 46, 116, 114, 117, 110, 99, 97, 116, 101]⟩
noncomputable def s331 : Str := ⟨#[66, 121, 116, 101, 115, 73, 79, 46, 114, 101, 97, 100]⟩
noncomputable def s332 : Str := ⟨#[66, 121, 116, 101, 115, 73, 79, 46, 114, 101, 97, 100, 49]⟩
noncomputable def s333 : Str := ⟨#[98, 117, 102, 102, 101, 114]⟩
noncomputable def s334 : Str := ⟨#[66, 121, 116, 101, 115, 73, 79, 46, 114, 101, 97, 100, 105, 110, 116, 111]⟩
noncomputable def s335 : Str := ⟨#[66, 121, 116, 101, 115, 73, 79, 46, 114, 101, 97, 100, 105, 110, 116, 111, 49]⟩
noncomputable def s336 : Str := ⟨#[66, 121, 116, 101, 115, 73, 79, 46, 114, 101, 97, 100, 108, 105, 110, 101]⟩
noncomputable def s337 : Str := ⟨#[66, 121, 116, 101, 115, 73, 79, 46, 114, 101, 97, 100, 108, 105, 110, 101, 115]⟩
noncomputable def s338 : Str := ⟨#[66, 121, 116, 101, 115, 73, 79, 46, 95, 95, 105, 116, 101, 114, 95, 95]⟩
noncomputable def s339 : Str := ⟨#[108, 105, 110, 101]⟩
noncomputable def s340 : Str := ⟨#[66, 121, 116, 101, 115, 73, 79, 46, 95, 95, 110, 101, 120, 116, 95, 95]⟩
noncomputable def s341 : Str := ⟨#[98]⟩
noncomputable def s342 : Str := ⟨#[66, 121, 116, 101, 115, 73, 79, 46, 119, 114, 105, 116, 101]⟩
noncomputable def s343 : Str := ⟨#[108, 105, 110, 101, 115]⟩
noncomputable def s344 : Str := ⟨#[66, 121, 116, 101, 115, 73, 79, 46, 119, 114, 105, 116, 101, 108, 105, 110, 101, 115]⟩
noncomputable def s345 : Str := ⟨#[66, 121, 116, 101, 115, 73, 79, 46, 95, 95, 114, 101, 112, 114, 95, 95]⟩
noncomputable def s346 : Str := ⟨#[95, 95, 98, 117, 102]⟩
noncomputable def s347 : Str := ⟨#[95, 95, 112, 111, 115]⟩
noncomputable def s348 : Str := ⟨#[83, 116, 114, 105, 110, 103, 73, 79]⟩
noncomputable def s349 : Str := ⟨#[95, 83, 116, 114, 105, 110, 103, 73, 79, 95, 95, 116, 114, 97, 110, 115, 108, 97, 116, 101, 100]⟩
noncomputable def s350 : Str := ⟨#[95, 83, 116, 114, 105, 110, 103, 73, 79, 95, 95, 99, 104, 101, 99, 107]⟩
noncomputable def s351 : Str := ⟨#[95, 83, 116, 114, 105, 110, 103, 73, 79, 95, 95, 99, 104, 101, 99, 107, 95, 100, 111, 116]⟩
noncomputable def s352 : Str := ⟨#[95, 83, 116, 114, 105, 110, 103, 73, 79, 95, 95, 108, 105, 110, 101]⟩
noncomputable def s353 : Str := ⟨#[108, 105, 110, 101, 95, 98, 117, 102, 102, 101, 114, 105, 110, 103]⟩
noncomputable def s354 : Str := ⟨#[110, 101, 119, 108, 105, 110, 101, 115]⟩
noncomputable def s355 : Str := ⟨#[101, 110, 99, 111, 100, 105, 110, 103]⟩
noncomputable def s356 : Str := ⟨#[101, 114, 114, 111, 114, 115]⟩
noncomputable def s357 : Str := ⟨#[10]⟩
noncomputable def s358 : Str := ⟨#[105, 110, 105, 116, 105, 97, 108, 95, 118, 97, 108, 117, 101]⟩
noncomputable def s359 : Str := ⟨#[110, 101, 119, 108, 105, 110, 101]⟩
noncomputable def s360 : Str := ⟨#[83, 116, 114, 105, 110, 103, 73, 79, 46, 95, 95, 105, 110, 105, 116, 95, 95]⟩
noncomputable def s361 : Str := ⟨#[115]⟩
noncomputable def s362 : Str := ⟨#[83, 116, 114, 105, 110, 103, 73, 79, 46, 95, 95, 116, 114, 97, 110, 115, 108, 97, 116, 101, 100]⟩
noncomputable def s363 : Str := ⟨#[95, 95, 116, 114, 97, 110, 115, 108, 97, 116, 101, 100]⟩
noncomputable def s364 : Str := ⟨#[83, 116, 114, 105, 110, 103, 73, 79, 46, 95, 95, 99, 104, 101, 99, 107]⟩
noncomputable def s365 : Str := ⟨#[83, 116, 114, 105, 110, 103, 73, 79, 46, 95, 95, 99, 104, 101, 99, 107, 95, 100, 111, 116]⟩
noncomputable def s366 : Str := ⟨#[95, 95, 99, 104, 101, 99, 107, 95, 100, 111, 116]⟩
noncomputable def s367 : Str := ⟨#[99, 117, 116]⟩
noncomputable def s368 : Str := ⟨#[106]⟩
noncomputable def s369 : Str := ⟨#[101, 110, 100]⟩
noncomputable def s370 : Str := ⟨#[83, 116, 114, 105, 110, 103, 73, 79, 46, 95, 95, 108, 105, 110, 101]⟩
noncomputable def s371 : Str := ⟨#[83, 116, 114, 105, 110, 103, 73, 79, 46, 99, 108, 111, 115, 101, 100]⟩
noncomputable def s372 : Str := ⟨#[83, 116, 114, 105, 110, 103, 73, 79, 46, 108, 105, 110, 101, 95, 98, 117, 102, 102, 101, 114, 105, 110, 103]⟩
noncomputable def s373 : Str := ⟨#[83, 116, 114, 105, 110, 103, 73, 79, 46, 110, 101, 119, 108, 105, 110, 101, 115]⟩
noncomputable def s374 : Str := ⟨#[83, 116, 114, 105, 110, 103, 73, 79, 46, 101, 110, 99, 111, 100, 105, 110, 103]⟩
noncomputable def s375 : Str := ⟨#[83, 116, 114, 105, 110, 103, 73, 79, 46, 101, 114, 114, 111, 114, 115]⟩
noncomputable def s376 : Str := ⟨#[83, 116, 114, 105, 110, 103, 73, 79, 46, 99, 108, 111, 115, 101]⟩
noncomputable def s377 : Str := ⟨#[83, 116, 114, 105, 110, 103, 73, 79, 46, 95, 95, 101, 110, 116, 101, 114, 95, 95]⟩
noncomputable def s378 : Str := ⟨#[83, 116, 114, 105, 110, 103, 73, 79, 46, 95, 95, 101, 120, 105, 116, 95, 95]⟩
noncomputable def s379 : Str := ⟨#[83, 116, 114, 105, 110, 103, 73, 79, 46, 114, 101, 97, 100, 97, 98, 108, 101]⟩
noncomputable def s380 : Str := ⟨#[83, 116, 114, 105, 110, 103, 73, 79, 46, 119, 114, 105, 116, 97, 98, 108, 101]⟩
noncomputable def s381 : Str := ⟨#[83, 116, 114, 105, 110, 103, 73, 79, 46, 115, 101, 101, 107, 97, 98, 108, 101]⟩
noncomputable def s382 : Str := ⟨#[83, 116, 114, 105, 110, 103, 73, 79, 46, 105, 115, 97, 116, 116, 121]⟩
noncomputable def s383 : Str := ⟨#[83, 116, 114, 105, 110, 103, 73, 79, 46, 102, 108, 117, 115, 104]⟩
noncomputable def s384 : Str := ⟨#[83, 116, 114, 105, 110, 103, 73, 79, 46, 102, 105, 108, 101, 110, 111]⟩
noncomputable def s385 : Str := ⟨#[83, 116, 114, 105, 110, 103, 73, 79, 46, 100, 101, 116, 97, 99, 104]⟩
noncomputable def s386 : Str := ⟨#[83, 116, 114, 105, 110, 103, 73, 79, 46, 103, 101, 116, 118, 97, 108, 117, 101]⟩
noncomputable def s387 : Str := ⟨#[83, 116, 114, 105, 110, 103, 73, 79, 46, 116, 101, 108, 108]⟩
noncomputable def s388 : Str := ⟨#[83, 116, 114, 105, 110, 103, 73, 79, 46, 115, 101, 101, 107]⟩
noncomputable def s389 : Str := ⟨#[83, 116, 114, 105, 110, 103, 73, 79, 46, 116, 114, 117, 110, 99, 97, 116, 101]⟩
noncomputable def s390 : Str := ⟨#[83, 116, 114, 105, 110, 103, 73, 79, 46, 114, 101, 97, 100]⟩
noncomputable def s391 : Str := ⟨#[83, 116, 114, 105, 110, 103, 73, 79, 46, 114, 101, 97, 100, 108, 105, 110, 101]⟩
noncomputable def s392 : Str := ⟨#[104, 105, 110, 116]⟩
noncomputable def s393 : Str := ⟨#[83, 116, 114, 105, 110, 103, 73, 79, 46, 114, 101, 97, 100, 108, 105, 110, 101, 115]⟩
noncomputable def s394 : Str := ⟨#[83, 116, 114, 105, 110, 103, 73, 79, 46, 95, 95, 105, 116, 101, 114, 95, 95]⟩
noncomputable def s395 : Str := ⟨#[83, 116, 114, 105, 110, 103, 73, 79, 46, 95, 95, 110, 101, 120, 116, 95, 95]⟩
noncomputable def s396 : Str := ⟨#[109]⟩
noncomputable def s397 : Str := ⟨#[98, 117, 102]⟩
noncomputable def s398 : Str := ⟨#[83, 116, 114, 105, 110, 103, 73, 79, 46, 119, 114, 105, 116, 101]⟩
noncomputable def s399 : Str := ⟨#[83, 116, 114, 105, 110, 103, 73, 79, 46, 119, 114, 105, 116, 101, 108, 105, 110, 101, 115]⟩
noncomputable def s400 : Str := ⟨#[83, 116, 114, 105, 110, 103, 73, 79, 46, 95, 95, 114, 101, 112, 114, 95, 95]⟩
noncomputable def s401 : Str := ⟨#[95, 95, 110, 101, 119, 108, 105, 110, 101]⟩
noncomputable def s402 : Str := ⟨#[108, 97, 119, 95, 111, 112, 48, 50, 49, 49, 95, 48, 49]⟩
noncomputable def s403 : Str := ⟨#[95, 107, 105, 110, 100]⟩
noncomputable def s404 : Str := ⟨#[95, 102, 115, 112, 97, 116, 104]⟩
noncomputable def s405 : Str := ⟨#[95, 99, 104, 101, 99, 107, 95, 97, 114, 103, 95, 116, 121, 112, 101, 115]⟩
noncomputable def s406 : Str := ⟨#[105, 115, 97, 98, 115]⟩
noncomputable def s407 : Str := ⟨#[106, 111, 105, 110]⟩
noncomputable def s408 : Str := ⟨#[106, 111, 105, 110, 95, 112, 97, 116, 104]⟩
noncomputable def s409 : Str := ⟨#[100, 105, 114, 110, 97, 109, 101]⟩
noncomputable def s410 : Str := ⟨#[115, 104, 108, 101, 120]⟩
noncomputable def s411 : Str := ⟨#[115, 112, 108, 105, 116]⟩
noncomputable def s412 : Str := ⟨#[106, 111, 105, 110, 95, 115, 104, 108, 101, 120]⟩
noncomputable def s413 : Str := ⟨#[95, 102, 105, 110, 100, 95, 117, 110, 115, 97, 102, 101]⟩
noncomputable def s414 : Str := ⟨#[113, 117, 111, 116, 101]⟩
noncomputable def s415 : Str := ⟨#[95, 98, 121, 116, 101, 115, 119, 97, 112]⟩
noncomputable def s416 : Str := ⟨#[95, 108, 97, 119, 95, 119, 111, 114, 100]⟩
noncomputable def s417 : Str := ⟨#[95, 108, 97, 119, 95, 116, 117, 114, 110, 101, 100]⟩
noncomputable def s418 : Str := ⟨#[95, 108, 97, 119, 95, 103, 114, 111, 119, 110]⟩
noncomputable def s419 : Str := ⟨#[95, 108, 97, 119, 95, 102, 111, 114, 101, 115, 116]⟩
noncomputable def s420 : Str := ⟨#[95, 108, 97, 119, 95, 119, 114, 105, 116, 116, 101, 110]⟩
noncomputable def s421 : Str := ⟨#[108, 97, 119]⟩
noncomputable def s422 : Str := ⟨#[120]⟩
noncomputable def s423 : Str := ⟨#[116]⟩
noncomputable def s424 : Str := ⟨#[111, 115, 46, 112, 97, 116, 104]⟩
noncomputable def s425 : Str := ⟨#[102, 117, 110, 99, 110, 97, 109, 101]⟩
noncomputable def s426 : Str := ⟨#[97]⟩
noncomputable def s427 : Str := ⟨#[112]⟩
noncomputable def s428 : Str := ⟨#[115, 101, 112]⟩
noncomputable def s429 : Str := ⟨#[112, 97, 116, 104]⟩
noncomputable def s430 : Str := ⟨#[104, 101, 97, 100]⟩
noncomputable def s431 : Str := ⟨#[99, 112, 121, 51, 49, 51, 46, 115, 104, 108, 101, 120]⟩
noncomputable def s432 : Str := ⟨#[112, 117, 110, 99, 116, 117, 97, 116, 105, 111, 110, 95, 99, 104, 97, 114, 115]⟩
noncomputable def s433 : Str := ⟨#[112, 117, 115, 104, 95, 116, 111, 107, 101, 110]⟩
noncomputable def s434 : Str := ⟨#[112, 117, 115, 104, 95, 115, 111, 117, 114, 99, 101]⟩
noncomputable def s435 : Str := ⟨#[112, 111, 112, 95, 115, 111, 117, 114, 99, 101]⟩
noncomputable def s436 : Str := ⟨#[103, 101, 116, 95, 116, 111, 107, 101, 110]⟩
noncomputable def s437 : Str := ⟨#[114, 101, 97, 100, 95, 116, 111, 107, 101, 110]⟩
noncomputable def s438 : Str := ⟨#[115, 111, 117, 114, 99, 101, 104, 111, 111, 107]⟩
noncomputable def s439 : Str := ⟨#[101, 114, 114, 111, 114, 95, 108, 101, 97, 100, 101, 114]⟩
noncomputable def s440 : Str := ⟨#[105, 110, 115, 116, 114, 101, 97, 109]⟩
noncomputable def s441 : Str := ⟨#[105, 110, 102, 105, 108, 101]⟩
noncomputable def s442 : Str := ⟨#[112, 111, 115, 105, 120]⟩
noncomputable def s443 : Str := ⟨#[115, 104, 108, 101, 120, 46, 95, 95, 105, 110, 105, 116, 95, 95]⟩
noncomputable def s444 : Str := ⟨#[115, 104, 108, 101, 120, 46, 112, 117, 110, 99, 116, 117, 97, 116, 105, 111, 110, 95, 99, 104, 97, 114, 115]⟩
noncomputable def s445 : Str := ⟨#[116, 111, 107]⟩
noncomputable def s446 : Str := ⟨#[115, 104, 108, 101, 120, 46, 112, 117, 115, 104, 95, 116, 111, 107, 101, 110]⟩
noncomputable def s447 : Str := ⟨#[110, 101, 119, 115, 116, 114, 101, 97, 109]⟩
noncomputable def s448 : Str := ⟨#[110, 101, 119, 102, 105, 108, 101]⟩
noncomputable def s449 : Str := ⟨#[115, 104, 108, 101, 120, 46, 112, 117, 115, 104, 95, 115, 111, 117, 114, 99, 101]⟩
noncomputable def s450 : Str := ⟨#[115, 104, 108, 101, 120, 46, 112, 111, 112, 95, 115, 111, 117, 114, 99, 101]⟩
noncomputable def s451 : Str := ⟨#[114, 97, 119]⟩
noncomputable def s452 : Str := ⟨#[115, 112, 101, 99]⟩
noncomputable def s453 : Str := ⟨#[115, 104, 108, 101, 120, 46, 103, 101, 116, 95, 116, 111, 107, 101, 110]⟩
noncomputable def s454 : Str := ⟨#[113, 117, 111, 116, 101, 100]⟩
noncomputable def s455 : Str := ⟨#[101, 115, 99, 97, 112, 101, 100, 115, 116, 97, 116, 101]⟩
noncomputable def s456 : Str := ⟨#[110, 101, 120, 116, 99, 104, 97, 114]⟩
noncomputable def s457 : Str := ⟨#[114, 101, 115, 117, 108, 116]⟩
noncomputable def s458 : Str := ⟨#[115, 104, 108, 101, 120, 46, 114, 101, 97, 100, 95, 116, 111, 107, 101, 110]⟩
noncomputable def s459 : Str := ⟨#[115, 104, 108, 101, 120, 46, 115, 111, 117, 114, 99, 101, 104, 111, 111, 107]⟩
noncomputable def s460 : Str := ⟨#[108, 105, 110, 101, 110, 111]⟩
noncomputable def s461 : Str := ⟨#[115, 104, 108, 101, 120, 46, 101, 114, 114, 111, 114, 95, 108, 101, 97, 100, 101, 114]⟩
noncomputable def s462 : Str := ⟨#[115, 104, 108, 101, 120, 46, 95, 95, 105, 116, 101, 114, 95, 95]⟩
noncomputable def s463 : Str := ⟨#[116, 111, 107, 101, 110]⟩
noncomputable def s464 : Str := ⟨#[115, 104, 108, 101, 120, 46, 95, 95, 110, 101, 120, 116, 95, 95]⟩
noncomputable def s465 : Str := ⟨#[95, 112, 117, 110, 99, 116, 117, 97, 116, 105, 111, 110, 95, 99, 104, 97, 114, 115]⟩
noncomputable def s466 : Str := ⟨#[95, 112, 117, 115, 104, 98, 97, 99, 107, 95, 99, 104, 97, 114, 115]⟩
noncomputable def s467 : Str := ⟨#[99, 111, 109, 109, 101, 110, 116, 101, 114, 115]⟩
noncomputable def s468 : Str := ⟨#[100, 101, 98, 117, 103]⟩
noncomputable def s469 : Str := ⟨#[101, 111, 102]⟩
noncomputable def s470 : Str := ⟨#[101, 115, 99, 97, 112, 101]⟩
noncomputable def s471 : Str := ⟨#[101, 115, 99, 97, 112, 101, 100, 113, 117, 111, 116, 101, 115]⟩
noncomputable def s472 : Str := ⟨#[102, 105, 108, 101, 115, 116, 97, 99, 107]⟩
noncomputable def s473 : Str := ⟨#[112, 117, 115, 104, 98, 97, 99, 107]⟩
noncomputable def s474 : Str := ⟨#[113, 117, 111, 116, 101, 115]⟩
noncomputable def s475 : Str := ⟨#[115, 111, 117, 114, 99, 101]⟩
noncomputable def s476 : Str := ⟨#[115, 116, 97, 116, 101]⟩
noncomputable def s477 : Str := ⟨#[119, 104, 105, 116, 101, 115, 112, 97, 99, 101]⟩
noncomputable def s478 : Str := ⟨#[119, 104, 105, 116, 101, 115, 112, 97, 99, 101, 95, 115, 112, 108, 105, 116]⟩
noncomputable def s479 : Str := ⟨#[119, 111, 114, 100, 99, 104, 97, 114, 115]⟩
noncomputable def s480 : Str := ⟨#[99, 111, 109, 109, 101, 110, 116, 115]⟩
noncomputable def s481 : Str := ⟨#[108, 101, 120]⟩
noncomputable def s482 : Str := ⟨#[115, 112, 108, 105, 116, 95, 99, 111, 109, 109, 97, 110, 100]⟩
noncomputable def s483 : Str := ⟨#[100, 97, 116, 97]⟩
noncomputable def s484 : Str := ⟨#[119, 105, 100, 116, 104]⟩
noncomputable def s485 : Str := ⟨#[115, 119, 97, 112, 112, 101, 100, 95, 100, 97, 116, 97]⟩
noncomputable def s486 : Str := ⟨#[99, 112, 121, 51, 49, 51, 46, 119, 97, 118, 101]⟩
noncomputable def s487 : Str := ⟨#[116, 114, 101, 101, 115]⟩
noncomputable def s488 : Str := ⟨#[119, 111, 114, 100]⟩
noncomputable def s489 : Str := ⟨#[119, 111, 114, 100, 115]⟩
noncomputable def s490 : Str := ⟨#[112, 108, 97, 99, 101]⟩
noncomputable def s491 : Str := ⟨#[116, 114, 101, 101]⟩
noncomputable def q0 (P : Params) : Obj := { cls := (.type PySem.W.SL.s14018661285674007319x4), data := (.dict ⟨[⟨PyData.keyHash P s0, (.str s0 1), (.str s1 160)⟩, ⟨PyData.keyHash P s2, (.str s2 2), (.builtin "builtins.__doc__:str#opaque")⟩, ⟨PyData.keyHash P s3, (.str s3 3), (.builtin "builtins.__package__:str#opaque")⟩, ⟨PyData.keyHash P s4, (.str s4 4), (.builtin "builtins.__loader__:shared#opaque")⟩, ⟨PyData.keyHash P s5, (.str s5 5), (.builtin PySem.W.SL.s11665532747177232413x24)⟩, ⟨PyData.keyHash P s6, (.str s6 6), (.builtin PySem.W.SL.s15183661809925369436x15)⟩, ⟨PyData.keyHash P s7, (.str s7 7), (.builtin PySem.W.SL.s13915890719876406383x10)⟩, ⟨PyData.keyHash P s8, (.str s8 8), (.builtin PySem.W.SL.s13459172003223722735x3)⟩, ⟨PyData.keyHash P s9, (.str s9 9), (.builtin PySem.W.SL.s10557405761357834076x3)⟩, ⟨PyData.keyHash P s10, (.str s10 10), (.builtin PySem.W.SL.s4233737765568776869x3)⟩, ⟨PyData.keyHash P s11, (.str s11 11), (.builtin PySem.W.SL.s2508922471967985374x5)⟩, ⟨PyData.keyHash P s12, (.str s12 12), (.builtin PySem.W.SL.s15574269061696679450x3)⟩, ⟨PyData.keyHash P s13, (.str s13 13), (.builtin PySem.W.SL.s6016482663378992977x10)⟩, ⟨PyData.keyHash P s14, (.str s14 14), (.builtin PySem.W.SL.s5596568736180474577x8)⟩, ⟨PyData.keyHash P s15, (.str s15 15), (.builtin PySem.W.SL.s2839554839881490554x3)⟩, ⟨PyData.keyHash P s16, (.str s16 16), (.builtin PySem.W.SL.s725004073602090463x7)⟩, ⟨PyData.keyHash P s17, (.str s17 17), (.builtin PySem.W.SL.s9436932552931045734x7)⟩, ⟨PyData.keyHash P s18, (.str s18 18), (.builtin PySem.W.SL.s2754603736356183583x3)⟩, ⟨PyData.keyHash P s19, (.str s19 19), (.builtin PySem.W.SL.s15185746759980889043x6)⟩, ⟨PyData.keyHash P s20, (.str s20 20), (.builtin PySem.W.SL.s8192189862530294059x4)⟩, ⟨PyData.keyHash P s21, (.str s21 21), (.builtin PySem.W.SL.s7038307821325472102x4)⟩, ⟨PyData.keyHash P s22, (.str s22 22), (.builtin PySem.W.SL.s5662562618415449548x6)⟩, ⟨PyData.keyHash P s23, (.str s23 23), (.builtin PySem.W.SL.s15281542589158584767x7)⟩, ⟨PyData.keyHash P s24, (.str s24 24), (.builtin PySem.W.SL.s17651547275483570877x7)⟩, ⟨PyData.keyHash P s25, (.str s25 25), (.builtin PySem.W.SL.s4036449017235975746x7)⟩, ⟨PyData.keyHash P s26, (.str s26 26), (.builtin PySem.W.SL.s8879979712987360175x4)⟩, ⟨PyData.keyHash P s27, (.str s27 27), (.builtin PySem.W.SL.s1801250619170735830x3)⟩, ⟨PyData.keyHash P s28, (.str s28 28), (.builtin PySem.W.SL.s17659931425627118568x2)⟩, ⟨PyData.keyHash P s29, (.str s29 29), (.builtin PySem.W.SL.s6063217899685152688x5)⟩, ⟨PyData.keyHash P s30, (.str s30 30), (.builtin PySem.W.SL.s8008927332132565319x10)⟩, ⟨PyData.keyHash P s31, (.str s31 31), (.builtin PySem.W.SL.s3544116645089599534x10)⟩, ⟨PyData.keyHash P s32, (.str s32 32), (.builtin PySem.W.SL.s13761710972054866084x4)⟩, ⟨PyData.keyHash P s33, (.str s33 33), (.builtin PySem.W.SL.s12896375587409280029x5)⟩, ⟨PyData.keyHash P s34, (.str s34 34), (.builtin PySem.W.SL.s13014049009108672802x3)⟩, ⟨PyData.keyHash P s35, (.str s35 35), (.builtin PySem.W.SL.s13935586738268321596x6)⟩, ⟨PyData.keyHash P s36, (.str s36 36), (.builtin PySem.W.SL.s8200498257699607233x3)⟩, ⟨PyData.keyHash P s37, (.str s37 37), (.builtin PySem.W.SL.s14114244577727609259x3)⟩, ⟨PyData.keyHash P s38, (.str s38 38), (.builtin PySem.W.SL.s1499430450269397089x4)⟩, ⟨PyData.keyHash P s39, (.str s39 39), (.builtin PySem.W.SL.s8755793994789770505x5)⟩, ⟨PyData.keyHash P s40, (.str s40 40), (.builtin PySem.W.SL.s15725212667919936108x3)⟩, ⟨PyData.keyHash P s41, (.str s41 41), (.builtin PySem.W.SL.s15791221867095933363x3)⟩, ⟨PyData.keyHash P s42, (.str s42 42), (.builtin PySem.W.SL.s81309575031448614x3)⟩, ⟨PyData.keyHash P s43, (.str s43 43), (.builtin PySem.W.SL.s8069831620301644142x5)⟩, ⟨PyData.keyHash P s44, (.str s44 44), (.builtin PySem.W.SL.s10061844253413749634x4)⟩, ⟨PyData.keyHash P s45, (.str s45 45), (.builtin PySem.W.SL.s9496514870978017513x5)⟩, ⟨PyData.keyHash P s46, (.str s46 46), (.builtin PySem.W.SL.s8899691144933366716x7)⟩, ⟨PyData.keyHash P s47, (.str s47 47), (.builtin PySem.W.SL.s15201008993051130160x6)⟩, ⟨PyData.keyHash P s48, (.str s48 48), (.builtin PySem.W.SL.s741896355592496720x3)⟩, ⟨PyData.keyHash P s49, (.str s49 49), (.builtin PySem.W.SL.s17925004256654032244x4)⟩, ⟨PyData.keyHash P s50, (.str s50 50), .none⟩, ⟨PyData.keyHash P s51, (.str s51 51), .ellipsis⟩, ⟨PyData.keyHash P s52, (.str s52 52), .notImplemented⟩, ⟨PyData.keyHash P s53, (.str s53 53), (.bool false)⟩, ⟨PyData.keyHash P s54, (.str s54 54), (.bool true)⟩, ⟨PyData.keyHash P s55, (.str s55 55), (.type PySem.W.SL.s11695548795398191787x4)⟩, ⟨PyData.keyHash P s56, (.str s56 56), (.type PySem.W.SL.s4156966113859768872x10)⟩, ⟨PyData.keyHash P s57, (.str s57 57), (.type PySem.W.SL.s9501651726347032510x9)⟩, ⟨PyData.keyHash P s58, (.str s58 58), (.type PySem.W.SL.s15722918466584999320x5)⟩, ⟨PyData.keyHash P s59, (.str s59 59), (.type PySem.W.SL.s591115383303110208x11)⟩, ⟨PyData.keyHash P s60, (.str s60 60), (.type PySem.W.SL.s15721156781594690315x7)⟩, ⟨PyData.keyHash P s61, (.str s61 61), (.type PySem.W.SL.s14018661285674007319x4)⟩, ⟨PyData.keyHash P s62, (.str s62 62), (.type PySem.W.SL.s14340494229221121180x9)⟩, ⟨PyData.keyHash P s63, (.str s63 63), (.type PySem.W.SL.s13429844117177748173x6)⟩, ⟨PyData.keyHash P s64, (.str s64 64), (.type PySem.W.SL.s16463266125957815391x5)⟩, ⟨PyData.keyHash P s65, (.str s65 65), (.type PySem.W.SL.s4922535414793169389x9)⟩, ⟨PyData.keyHash P s66, (.str s66 66), (.type PySem.W.SL.s8101838861749082086x8)⟩, ⟨PyData.keyHash P s67, (.str s67 67), (.type PySem.W.SL.s7066276694103001551x3)⟩, ⟨PyData.keyHash P s68, (.str s68 68), (.type PySem.W.SL.s9222952809800978799x4)⟩, ⟨PyData.keyHash P s69, (.str s69 69), (.type PySem.W.SL.s462964344163437139x3)⟩, ⟨PyData.keyHash P s70, (.str s70 70), (.type PySem.W.SL.s2742458400755230247x6)⟩, ⟨PyData.keyHash P s71, (.str s71 71), (.type PySem.W.SL.s1438033511350832697x5)⟩, ⟨PyData.keyHash P s72, (.str s72 72), (.type PySem.W.SL.s14365286008749172514x8)⟩, ⟨PyData.keyHash P s73, (.str s73 73), (.type PySem.W.SL.s3642769012341782148x3)⟩, ⟨PyData.keyHash P s74, (.str s74 74), (.type PySem.W.SL.s4674234679698826739x5)⟩, ⟨PyData.keyHash P s75, (.str s75 75), (.type PySem.W.SL.s16656946322747308186x12)⟩, ⟨PyData.keyHash P s76, (.str s76 76), (.type PySem.W.SL.s10796804682411823810x3)⟩, ⟨PyData.keyHash P s77, (.str s77 77), (.type PySem.W.SL.s4290257624100764138x5)⟩, ⟨PyData.keyHash P s78, (.str s78 78), (.type PySem.W.SL.s2766695959194262286x5)⟩, ⟨PyData.keyHash P s79, (.str s79 79), (.type PySem.W.SL.s17162191345867700912x4)⟩, ⟨PyData.keyHash P s80, (.str s80 80), (.type PySem.W.SL.s14339709457334898076x3)⟩, ⟨PyData.keyHash P s81, (.str s81 81), (.bool true)⟩, ⟨PyData.keyHash P s82, (.str s82 82), (.type PySem.W.SL.s4278001404047624695x13)⟩, ⟨PyData.keyHash P s83, (.str s83 83), (.type PySem.W.SL.s6585700554429387442x18)⟩, ⟨PyData.keyHash P s84, (.str s84 84), (.type PySem.W.SL.s5946037652744460706x9)⟩, ⟨PyData.keyHash P s85, (.str s85 85), (.type PySem.W.SL.s7410770068591931388x13)⟩, ⟨PyData.keyHash P s86, (.str s86 86), (.type PySem.W.SL.s11817881795495490833x17)⟩, ⟨PyData.keyHash P s87, (.str s87 87), (.type PySem.W.SL.s15679963881808890155x10)⟩, ⟨PyData.keyHash P s88, (.str s88 88), (.type PySem.W.SL.s3871700062485845797x15)⟩, ⟨PyData.keyHash P s89, (.str s89 89), (.type PySem.W.SL.s7689518266570723881x14)⟩, ⟨PyData.keyHash P s90, (.str s90 90), (.type PySem.W.SL.s9001593270443806431x14)⟩, ⟨PyData.keyHash P s91, (.str s91 91), (.type PySem.W.SL.s6882542574934516792x11)⟩, ⟨PyData.keyHash P s92, (.str s92 92), (.type PySem.W.SL.s14403400214490484960x8)⟩, ⟨PyData.keyHash P s93, (.str s93 93), (.type PySem.W.SL.s14457978657717015782x11)⟩, ⟨PyData.keyHash P s94, (.str s94 94), (.type PySem.W.SL.s1753610191782819921x11)⟩, ⟨PyData.keyHash P s95, (.str s95 95), (.type PySem.W.SL.s14119380538032626715x11)⟩, ⟨PyData.keyHash P s96, (.str s96 96), (.type PySem.W.SL.s11437920000406562045x9)⟩, ⟨PyData.keyHash P s97, (.str s97 97), (.type PySem.W.SL.s10852414792293593619x7)⟩, ⟨PyData.keyHash P s98, (.str s98 98), (.type PySem.W.SL.s14816307405966870543x14)⟩, ⟨PyData.keyHash P s99, (.str s99 99), (.type PySem.W.SL.s8682627914449686677x12)⟩, ⟨PyData.keyHash P s100, (.str s100 100), (.type PySem.W.SL.s4428170145600203450x18)⟩, ⟨PyData.keyHash P s101, (.str s101 101), (.type PySem.W.SL.s5991306692159431302x13)⟩, ⟨PyData.keyHash P s102, (.str s102 102), (.type PySem.W.SL.s16067994140765818257x11)⟩, ⟨PyData.keyHash P s103, (.str s103 103), (.type PySem.W.SL.s2327743974964600596x11)⟩, ⟨PyData.keyHash P s104, (.str s104 104), (.type PySem.W.SL.s2804747833354056582x9)⟩, ⟨PyData.keyHash P s105, (.str s105 105), (.type PySem.W.SL.s6070975301684473832x10)⟩, ⟨PyData.keyHash P s106, (.str s106 106), (.type PySem.W.SL.s14270485950484850486x7)⟩, ⟨PyData.keyHash P s107, (.str s107 107), (.type PySem.W.SL.s12041534306414923332x18)⟩, ⟨PyData.keyHash P s108, (.str s108 108), (.type PySem.W.SL.s2531307568338490285x13)⟩, ⟨PyData.keyHash P s109, (.str s109 109), (.type PySem.W.SL.s631175304937289666x17)⟩, ⟨PyData.keyHash P s110, (.str s110 110), (.type PySem.W.SL.s5144983644357021410x12)⟩, ⟨PyData.keyHash P s111, (.str s111 111), (.type PySem.W.SL.s18039099521571816885x18)⟩, ⟨PyData.keyHash P s112, (.str s112 112), (.type PySem.W.SL.s6011586214260557989x15)⟩, ⟨PyData.keyHash P s113, (.str s113 113), (.type PySem.W.SL.s5430567037509283100x13)⟩, ⟨PyData.keyHash P s114, (.str s114 114), (.type PySem.W.SL.s8117915138073963741x13)⟩, ⟨PyData.keyHash P s115, (.str s115 115), (.type PySem.W.SL.s3423317712779056401x25)⟩, ⟨PyData.keyHash P s116, (.str s116 116), (.type PySem.W.SL.s2007317383269046180x15)⟩, ⟨PyData.keyHash P s117, (.str s117 117), (.type PySem.W.SL.s17481586968713580700x14)⟩, ⟨PyData.keyHash P s118, (.str s118 118), (.type PySem.W.SL.s2450899226349176912x13)⟩, ⟨PyData.keyHash P s119, (.str s119 119), (.type PySem.W.SL.s16626165730633575011x14)⟩, ⟨PyData.keyHash P s120, (.str s120 120), (.type PySem.W.SL.s14288496050688921416x11)⟩, ⟨PyData.keyHash P s121, (.str s121 121), (.type PySem.W.SL.s5735081916595925998x15)⟩, ⟨PyData.keyHash P s122, (.str s122 122), (.type PySem.W.SL.s3865607918536308442x17)⟩, ⟨PyData.keyHash P s123, (.str s123 123), (.type PySem.W.SL.s13337502604062700212x15)⟩, ⟨PyData.keyHash P s124, (.str s124 124), (.type PySem.W.SL.s13114017843053701147x15)⟩, ⟨PyData.keyHash P s125, (.str s125 125), (.type PySem.W.SL.s17467278006356818441x17)⟩, ⟨PyData.keyHash P s126, (.str s126 126), (.type PySem.W.SL.s17722149559621369488x16)⟩, ⟨PyData.keyHash P s127, (.str s127 127), (.type PySem.W.SL.s7855274175708717672x17)⟩, ⟨PyData.keyHash P s128, (.str s128 128), (.type PySem.W.SL.s13351283678309829046x18)⟩, ⟨PyData.keyHash P s129, (.str s129 129), (.type PySem.W.SL.s6668348653404991179x15)⟩, ⟨PyData.keyHash P s130, (.str s130 130), (.type PySem.W.SL.s12913350958174193794x18)⟩, ⟨PyData.keyHash P s131, (.str s131 131), (.type PySem.W.SL.s16115879512475548326x12)⟩, ⟨PyData.keyHash P s132, (.str s132 132), (.type PySem.W.SL.s15920661018069861047x16)⟩, ⟨PyData.keyHash P s133, (.str s133 133), (.type PySem.W.SL.s10779130036587390575x21)⟩, ⟨PyData.keyHash P s134, (.str s134 134), (.type PySem.W.SL.s7801419657504700863x10)⟩, ⟨PyData.keyHash P s135, (.str s135 135), (.type PySem.W.SL.s1688129525768580628x8)⟩, ⟨PyData.keyHash P s136, (.str s136 136), (.type PySem.W.SL.s1031832959479892071x19)⟩, ⟨PyData.keyHash P s137, (.str s137 137), (.type PySem.W.SL.s8991790508128307865x19)⟩, ⟨PyData.keyHash P s138, (.str s138 138), (.type PySem.W.SL.s14539662485746970245x23)⟩, ⟨PyData.keyHash P s139, (.str s139 139), (.type PySem.W.SL.s11643622729373238714x14)⟩, ⟨PyData.keyHash P s140, (.str s140 140), (.type PySem.W.SL.s3386828779285465597x17)⟩, ⟨PyData.keyHash P s141, (.str s141 141), (.type PySem.W.SL.s13042696260734638735x12)⟩, ⟨PyData.keyHash P s142, (.str s142 142), (.type PySem.W.SL.s18239426817015966623x15)⟩, ⟨PyData.keyHash P s143, (.str s143 143), (.type PySem.W.SL.s1270395311379034370x22)⟩, ⟨PyData.keyHash P s144, (.str s144 144), (.type PySem.W.SL.s10696252587037064777x22)⟩, ⟨PyData.keyHash P s145, (.str s145 145), (.type PySem.W.SL.s7852717498200857586x20)⟩, ⟨PyData.keyHash P s146, (.str s146 146), (.type PySem.W.SL.s6377248116197321094x8)⟩, ⟨PyData.keyHash P s147, (.str s147 147), (.type PySem.W.SL.s3834378056692298002x18)⟩, ⟨PyData.keyHash P s148, (.str s148 148), (.type PySem.W.SL.s17586630440231065808x18)⟩, ⟨PyData.keyHash P s149, (.str s149 149), (.type PySem.W.SL.s15234114252648025395x21)⟩, ⟨PyData.keyHash P s150, (.str s150 150), (.type PySem.W.SL.s8496462677383758984x14)⟩, ⟨PyData.keyHash P s151, (.str s151 151), (.type PySem.W.SL.s10852414792293593619x7)⟩, ⟨PyData.keyHash P s152, (.str s152 152), (.type PySem.W.SL.s10852414792293593619x7)⟩, ⟨PyData.keyHash P s153, (.str s153 153), (.builtin PySem.W.SL.s16789243406116112673x4)⟩, ⟨PyData.keyHash P s154, (.str s154 154), (.builtin PySem.W.SL.s14400166428656793546x20)⟩, ⟨PyData.keyHash P s155, (.str s155 155), (.builtin PySem.W.SL.s5857708277339239366x20)⟩, ⟨PyData.keyHash P s156, (.str s156 156), (.builtin "builtins.copyright#opaque")⟩, ⟨PyData.keyHash P s157, (.str s157 157), (.builtin "builtins.credits#opaque")⟩, ⟨PyData.keyHash P s158, (.str s158 158), (.builtin "builtins.license#opaque")⟩, ⟨PyData.keyHash P s159, (.str s159 159), (.builtin PySem.W.SL.s7804999707787243718x20)⟩]⟩ 159) }
noncomputable def q1 (P : Params) : Obj := { cls := (.type PySem.W.SL.s14018661285674007319x4), data := (.dict ⟨[⟨PyData.keyHash P s1, (.str s1 162), (.ref 4)⟩, ⟨PyData.keyHash P s160, (.str s160 163), (.ref 5)⟩, ⟨PyData.keyHash P s161, (.str s161 244), (.ref 12)⟩, ⟨PyData.keyHash P s162, (.str s162 292), (.ref 30)⟩]⟩ 4) }
noncomputable def q2 (P : Params) : Obj := { cls := .none, data := (.dict ⟨[⟨PyData.keyHash P s163, (.str s163 183), (.bool true)⟩, ⟨PyData.keyHash P s164, (.str s164 185), (.ref 14)⟩, ⟨PyData.keyHash P s165, (.str s165 206), (.ref 18)⟩, ⟨PyData.keyHash P s166, (.str s166 216), (.ref 22)⟩, ⟨PyData.keyHash P s167, (.str s167 245), (.int 4 0)⟩, ⟨PyData.keyHash P s168, (.str s168 270), (.bool true)⟩, ⟨PyData.keyHash P s169, (.str s169 272), (.ref 27)⟩, ⟨PyData.keyHash P s170, (.str s170 0), (.str s171 0)⟩, ⟨PyData.keyHash P s172, (.str s172 273), (.str s173 0)⟩, ⟨PyData.keyHash P s174, (.str s174 280), (.bool true)⟩, ⟨PyData.keyHash P s175, (.str s175 294), (.bool true)⟩, ⟨PyData.keyHash P s176, (.str s176 309), (.bool true)⟩, ⟨PyData.keyHash P s177, (.str s177 311), (.str s178 0)⟩]⟩ 13) }
noncomputable def q3 (P : Params) : Obj := { cls := (.type PySem.W.SL.s14018661285674007319x4), data := (.dict ⟨[⟨PyData.keyHash P s0, (.str s0 165), (.str s160 164)⟩, ⟨PyData.keyHash P s2, (.str s2 166), .none⟩, ⟨PyData.keyHash P s3, (.str s3 167), .none⟩, ⟨PyData.keyHash P s4, (.str s4 168), (.builtin PySem.W.SL.s7097527257260152453x26)⟩, ⟨PyData.keyHash P s5, (.str s5 169), .none⟩, ⟨PyData.keyHash P s179, (.str s179 170), (.ref 6)⟩, ⟨PyData.keyHash P s180, (.str s180 171), (.ref 4)⟩, ⟨PyData.keyHash P s181, (.str s181 173), (.str s182 172)⟩, ⟨PyData.keyHash P s183, (.str s183 174), .none⟩, ⟨PyData.keyHash P s161, (.str s161 275), (.ref 12)⟩, ⟨PyData.keyHash P s184, (.str s184 317), (.type PySem.W.SL.s5314052453082223887x17)⟩]⟩ 11) }
noncomputable def q4 (P : Params) : Obj := { cls := (.type PySem.W.SL.s6658869562736209489x6), dict := some 0 }
noncomputable def q5 (P : Params) : Obj := { cls := (.type PySem.W.SL.s6658869562736209489x6), dict := some 3 }
noncomputable def q6 (P : Params) : Obj := { cls := (.type PySem.W.SL.s14018661285674007319x4), data := (.dict ⟨[]⟩ 0) }
noncomputable def q7 (P : Params) : Obj := { cls := (.type PySem.W.SL.s2766695959194262286x5), data := (.seq ⟨[]⟩ 0) }
noncomputable def q8 (P : Params) : Obj := { cls := .none, data := (.fields ⟨[]⟩) }
noncomputable def q9 (P : Params) : Obj := { cls := (.type PySem.W.SL.s5856160107412720595x4), data := (.fields ⟨[(.str s185 176), (.str s185 177), (.str s182 178), (.int 1 0), (.int 0 0), (.int 0 0), (.int 0 0), (.int 0 0), (.ref 7), (.bool false), (.int 175 0), (.ref 8), .none, .none, .none, .none, (.int 179 0), (.int 1 0), (.str s182 180)]⟩) }
noncomputable def q10 (P : Params) : Obj := { cls := (.type PySem.W.SL.s658472552662922059x5), slots := ⟨[some (.ref 9), some (.ref 3), some (.ref 3), none, some (.str s160 164), none, some (.ref 0)]⟩ }
noncomputable def q11 (P : Params) : Obj := { cls := (.type PySem.W.SL.s14018661285674007319x4), data := (.dict ⟨[⟨PyData.keyHash P s0, (.str s0 247), (.str s161 246)⟩, ⟨PyData.keyHash P s2, (.str s2 248), .none⟩, ⟨PyData.keyHash P s3, (.str s3 250), (.str s186 249)⟩, ⟨PyData.keyHash P s4, (.str s4 251), (.builtin "off-the-table:_sre.__loader__:shared#opaque")⟩, ⟨PyData.keyHash P s5, (.str s5 252), (.builtin "off-the-table:_sre.__spec__:shared#opaque")⟩, ⟨PyData.keyHash P s16, (.str s16 253), (.builtin PySem.W.SL.s492968859115322481x12)⟩, ⟨PyData.keyHash P s187, (.str s187 254), (.builtin "off-the-table:_sre.template:shared#opaque")⟩, ⟨PyData.keyHash P s188, (.str s188 255), (.builtin "off-the-table:_sre.getcodesize:shared#opaque")⟩, ⟨PyData.keyHash P s189, (.str s189 256), (.builtin "off-the-table:_sre.ascii_iscased:shared#opaque")⟩, ⟨PyData.keyHash P s190, (.str s190 257), (.builtin "off-the-table:_sre.unicode_iscased:shared#opaque")⟩, ⟨PyData.keyHash P s191, (.str s191 258), (.builtin "off-the-table:_sre.ascii_tolower:shared#opaque")⟩, ⟨PyData.keyHash P s192, (.str s192 259), (.builtin "off-the-table:_sre.unicode_tolower:shared#opaque")⟩, ⟨PyData.keyHash P s193, (.str s193 261), (.int 20230612 260)⟩, ⟨PyData.keyHash P s194, (.str s194 263), (.int 4 262)⟩, ⟨PyData.keyHash P s195, (.str s195 265), (.int 4294967295 264)⟩, ⟨PyData.keyHash P s196, (.str s196 267), (.int 1073741823 266)⟩, ⟨PyData.keyHash P s156, (.str s156 269), (.str s197 268)⟩]⟩ 17) }
noncomputable def q12 (P : Params) : Obj := { cls := (.type PySem.W.SL.s6658869562736209489x6), dict := some 11 }
noncomputable def q13 (P : Params) : Obj := { cls := (.type PySem.W.SL.s14018661285674007319x4), data := (.dict ⟨[⟨PyData.keyHash P s198, (.str s198 189), (.str s199 186)⟩, ⟨PyData.keyHash P s200, (.str s200 190), (.int 971 187)⟩, ⟨PyData.keyHash P s2, (.str s2 191), (.builtin "_frozen_importlib.BuiltinImporter.__doc__:str#opaque")⟩, ⟨PyData.keyHash P s201, (.str s201 192), (.str s202 188)⟩, ⟨PyData.keyHash P s203, (.str s203 193), (.builtin "_frozen_importlib.BuiltinImporter.find_spec#opaque")⟩, ⟨PyData.keyHash P s204, (.str s204 194), (.builtin "_frozen_importlib.BuiltinImporter.create_module#opaque")⟩, ⟨PyData.keyHash P s205, (.str s205 195), (.builtin "_frozen_importlib.BuiltinImporter.exec_module#opaque")⟩, ⟨PyData.keyHash P s206, (.str s206 196), (.builtin "_frozen_importlib.BuiltinImporter.get_code#opaque")⟩, ⟨PyData.keyHash P s207, (.str s207 197), (.builtin "_frozen_importlib.BuiltinImporter.get_source#opaque")⟩, ⟨PyData.keyHash P s208, (.str s208 198), (.builtin "_frozen_importlib.BuiltinImporter.is_package#opaque")⟩, ⟨PyData.keyHash P s209, (.str s209 199), (.builtin "_frozen_importlib.BuiltinImporter.load_module#opaque")⟩, ⟨PyData.keyHash P s210, (.str s210 200), (.ref 15)⟩, ⟨PyData.keyHash P s211, (.str s211 202), (.ref 16)⟩, ⟨PyData.keyHash P s212, (.str s212 204), (.ref 17)⟩]⟩ 14) }
noncomputable def q14 (P : Params) : Obj := { cls := (.type PySem.W.SL.s17162191345867700912x4), data := (.cls { name := s213, bases := [(.type PySem.W.SL.s2742458400755230247x6)], mro := [(.ref 14), (.type PySem.W.SL.s2742458400755230247x6)], ns := 13, qualname := s213, hasDict := true, slotNames := [], subclasses := [], abstract := false, collection := none, hasDel := false }) }
noncomputable def q15 (P : Params) : Obj := { cls := (.type PySem.W.SL.s2766695959194262286x5), data := (.seq ⟨[]⟩ 0) }
noncomputable def q16 (P : Params) : Obj := { cls := (.type PySem.W.SL.s14755015743595814543x17), data := (.fields ⟨[(.str s211 201), (.ref 14), (.builtin PySem.W.SL.s6511155373996960695x17), (.builtin PySem.W.SL.s12411053484034534018x21)]⟩) }
noncomputable def q17 (P : Params) : Obj := { cls := (.type PySem.W.SL.s14755015743595814543x17), data := (.fields ⟨[(.str s212 203), (.ref 14), (.builtin PySem.W.SL.s10220274742760427390x26), .none]⟩) }
noncomputable def q18 (P : Params) : Obj := { cls := .none, data := (.seq ⟨[(.int 13 0), (.str s214 0), (.bool true), (.bool true), (.str s186 205), (.int 21 0), (.str s215 0), (.bool true), (.bool true), (.str s186 242)]⟩ 1) }
noncomputable def q19 (P : Params) : Obj := { cls := (.type PySem.W.SL.s9222952809800978799x4), data := (.seq ⟨[]⟩ 0) }
noncomputable def q20 (P : Params) : Obj := { cls := (.type PySem.W.SL.s14018661285674007319x4), data := (.dict ⟨[⟨PyData.keyHash P s216, (.str s216 208), (.str s161 207)⟩, ⟨PyData.keyHash P s217, (.str s217 209), (.ref 14)⟩, ⟨PyData.keyHash P s218, (.str s218 210), (.str s202 184)⟩, ⟨PyData.keyHash P s219, (.str s219 211), .none⟩, ⟨PyData.keyHash P s220, (.str s220 212), .none⟩, ⟨PyData.keyHash P s221, (.str s221 213), (.ref 19)⟩, ⟨PyData.keyHash P s222, (.str s222 214), (.bool false)⟩, ⟨PyData.keyHash P s223, (.str s223 215), .none⟩, ⟨PyData.keyHash P s224, (.str s224 243), (.bool false)⟩]⟩ 9) }
noncomputable def q21 (P : Params) : Obj := { cls := (.type PySem.W.SL.s14018661285674007319x4), data := (.dict ⟨[⟨PyData.keyHash P s198, (.str s198 227), (.str s199 217)⟩, ⟨PyData.keyHash P s200, (.str s200 228), (.int 562 218)⟩, ⟨PyData.keyHash P s2, (.str s2 229), (.builtin "_frozen_importlib.ModuleSpec.__doc__:str#opaque")⟩, ⟨PyData.keyHash P s225, (.str s225 230), (.builtin "_frozen_importlib.ModuleSpec.__init__#opaque")⟩, ⟨PyData.keyHash P s226, (.str s226 231), (.builtin "_frozen_importlib.ModuleSpec.__repr__#opaque")⟩, ⟨PyData.keyHash P s227, (.str s227 232), (.builtin "_frozen_importlib.ModuleSpec.__eq__#opaque")⟩, ⟨PyData.keyHash P s228, (.str s228 233), (.builtin "_frozen_importlib.ModuleSpec.cached#opaque")⟩, ⟨PyData.keyHash P s229, (.str s229 234), (.builtin "_frozen_importlib.ModuleSpec.parent#opaque")⟩, ⟨PyData.keyHash P s230, (.str s230 235), (.builtin "_frozen_importlib.ModuleSpec.has_location#opaque")⟩, ⟨PyData.keyHash P s210, (.str s210 236), (.ref 23)⟩, ⟨PyData.keyHash P s211, (.str s211 238), (.ref 24)⟩, ⟨PyData.keyHash P s212, (.str s212 240), (.ref 25)⟩, ⟨PyData.keyHash P s231, (.str s231 241), .none⟩]⟩ 13) }
noncomputable def q22 (P : Params) : Obj := { cls := (.type PySem.W.SL.s17162191345867700912x4), data := (.cls { name := s232, bases := [(.type PySem.W.SL.s2742458400755230247x6)], mro := [(.ref 22), (.type PySem.W.SL.s2742458400755230247x6)], ns := 21, qualname := s232, hasDict := true, slotNames := [], subclasses := [], abstract := false, collection := none, hasDel := false }) }
noncomputable def q23 (P : Params) : Obj := { cls := (.type PySem.W.SL.s2766695959194262286x5), data := (.seq ⟨[(.str s223 219), (.str s222 220), (.str s221 221), (.str s217 222), (.str s219 223), (.str s216 224), (.str s218 225), (.str s220 226)]⟩ 0) }
noncomputable def q24 (P : Params) : Obj := { cls := (.type PySem.W.SL.s14755015743595814543x17), data := (.fields ⟨[(.str s211 237), (.ref 22), (.builtin PySem.W.SL.s6511155373996960695x17), (.builtin PySem.W.SL.s12411053484034534018x21)]⟩) }
noncomputable def q25 (P : Params) : Obj := { cls := (.type PySem.W.SL.s14755015743595814543x17), data := (.fields ⟨[(.str s212 239), (.ref 22), (.builtin PySem.W.SL.s10220274742760427390x26), .none]⟩) }
noncomputable def q26 (P : Params) : Obj := { cls := (.ref 22), dict := some 20 }
noncomputable def q27 (P : Params) : Obj := { cls := .none, data := (.seq ⟨[(.int 11 0), (.str s233 0), (.bool true), (.bool false), (.str s161 271), (.int 29 0), (.str s234 0), (.bool true), (.bool false), (.str s162 310)]⟩ 1) }
noncomputable def q28 (P : Params) : Obj := { cls := (.type PySem.W.SL.s2766695959194262286x5), data := (.seq ⟨[(.str s184 277)]⟩ 0) }
noncomputable def q29 (P : Params) : Obj := { cls := (.type PySem.W.SL.s14018661285674007319x4), data := (.dict ⟨[⟨PyData.keyHash P s0, (.str s0 296), (.str s162 295)⟩, ⟨PyData.keyHash P s2, (.str s2 297), (.builtin "off-the-table:_collections.__doc__:shared#opaque")⟩, ⟨PyData.keyHash P s3, (.str s3 299), (.str s186 298)⟩, ⟨PyData.keyHash P s4, (.str s4 300), (.builtin "off-the-table:_collections.__loader__:shared#opaque")⟩, ⟨PyData.keyHash P s5, (.str s5 301), (.builtin "off-the-table:_collections.__spec__:shared#opaque")⟩, ⟨PyData.keyHash P s235, (.str s235 302), (.builtin PySem.W.SL.s5957113450721151568x28)⟩, ⟨PyData.keyHash P s184, (.str s184 303), (.type PySem.W.SL.s5314052453082223887x17)⟩, ⟨PyData.keyHash P s236, (.str s236 304), (.type PySem.W.SL.s9278979716766391425x23)⟩, ⟨PyData.keyHash P s237, (.str s237 305), (.builtin "off-the-table:_collections._deque_iterator:shared#opaque")⟩, ⟨PyData.keyHash P s238, (.str s238 306), (.builtin "off-the-table:_collections._deque_reverse_iterator:shared#opaque")⟩, ⟨PyData.keyHash P s239, (.str s239 307), (.type PySem.W.SL.s13209474081997913071x24)⟩, ⟨PyData.keyHash P s240, (.str s240 308), (.type PySem.W.SL.s8302156878143849030x23)⟩]⟩ 12) }
noncomputable def q30 (P : Params) : Obj := { cls := (.type PySem.W.SL.s6658869562736209489x6), dict := some 29 }
noncomputable def q31 (P : Params) : Obj := { cls := (.type PySem.W.SL.s9222952809800978799x4), data := (.seq ⟨[]⟩ 0) }
noncomputable def q32 (P : Params) : Obj := { cls := (.type PySem.W.SL.s14018661285674007319x4), data := (.dict ⟨[⟨PyData.keyHash P s216, (.str s216 283), (.str s162 282)⟩, ⟨PyData.keyHash P s217, (.str s217 284), (.ref 14)⟩, ⟨PyData.keyHash P s218, (.str s218 285), (.str s202 281)⟩, ⟨PyData.keyHash P s219, (.str s219 286), .none⟩, ⟨PyData.keyHash P s220, (.str s220 287), .none⟩, ⟨PyData.keyHash P s221, (.str s221 288), (.ref 31)⟩, ⟨PyData.keyHash P s222, (.str s222 289), (.bool false)⟩, ⟨PyData.keyHash P s223, (.str s223 290), .none⟩, ⟨PyData.keyHash P s224, (.str s224 291), (.bool false)⟩]⟩ 9) }
noncomputable def q33 (P : Params) : Obj := { cls := (.ref 22), dict := some 32 }
noncomputable def T0 (P : Params) : BT := (.node (q0 P) (.node (q1 P) (.node (q3 P) (.node (q7 P) (.node (q15 P) (.node (q31 P) .nil .nil) .nil) (.node (q23 P) .nil .nil)) (.node (q11 P) (.node (q19 P) .nil .nil) (.node (q27 P) .nil .nil))) (.node (q5 P) (.node (q9 P) (.node (q17 P) (.node (q33 P) .nil .nil) .nil) (.node (q25 P) .nil .nil)) (.node (q13 P) (.node (q21 P) .nil .nil) (.node (q29 P) .nil .nil)))) (.node (q2 P) (.node (q4 P) (.node (q8 P) (.node (q16 P) (.node (q32 P) .nil .nil) .nil) (.node (q24 P) .nil .nil)) (.node (q12 P) (.node (q20 P) .nil .nil) (.node (q28 P) .nil .nil))) (.node (q6 P) (.node (q10 P) (.node (q18 P) .nil .nil) (.node (q26 P) .nil .nil)) (.node (q14 P) (.node (q22 P) .nil .nil) (.node (q30 P) .nil .nil)))))
noncomputable def q34 (P : Params) : Obj := { cls := (.type PySem.W.SL.s2766695959194262286x5), data := (.seq ⟨[]⟩ 0) }
noncomputable def q35 (P : Params) : Obj := { cls := .none, data := (.fields ⟨[]⟩) }
noncomputable def q36 (P : Params) : Obj := { cls := (.type PySem.W.SL.s5856160107412720595x4), data := (.fields ⟨[(.str s185 319), (.str s185 320), (.str s182 321), (.int 1 0), (.int 0 0), (.int 0 0), (.int 0 0), (.int 0 0), (.ref 34), (.bool false), (.int 318 0), (.ref 35), .none, .none, .none, .none, (.int 322 0), (.int 1 0), (.str s182 323)]⟩) }
noncomputable def q37 (P : Params) : Obj := { cls := (.type PySem.W.SL.s658472552662922059x5), slots := ⟨[some (.ref 36), some (.ref 3), some (.ref 3), none, some (.str s160 164), none, some (.ref 0)]⟩ }
noncomputable def Ta (P : Params) : BT := (.node (q0 P) (.node (q1 P) (.node (q3 P) (.node (q7 P) (.node (q15 P) (.node (q31 P) .nil .nil) .nil) (.node (q23 P) .nil .nil)) (.node (q11 P) (.node (q19 P) (.node (q35 P) .nil .nil) .nil) (.node (q27 P) .nil .nil))) (.node (q5 P) (.node (q9 P) (.node (q17 P) (.node (q33 P) .nil .nil) .nil) (.node (q25 P) .nil .nil)) (.node (q13 P) (.node (q21 P) (.node (q37 P) .nil .nil) .nil) (.node (q29 P) .nil .nil)))) (.node (q2 P) (.node (q4 P) (.node (q8 P) (.node (q16 P) (.node (q32 P) .nil .nil) .nil) (.node (q24 P) .nil .nil)) (.node (q12 P) (.node (q20 P) (.node (q36 P) .nil .nil) .nil) (.node (q28 P) .nil .nil))) (.node (q6 P) (.node (q10 P) (.node (q18 P) (.node (q34 P) .nil .nil) .nil) (.node (q26 P) .nil .nil)) (.node (q14 P) (.node (q22 P) .nil .nil) (.node (q30 P) .nil .nil)))))
-- state b: the same tree; toks 324 n 38
noncomputable def q38 (P : Params) : Obj := { cls := .none, data := (.dict ⟨[⟨PyData.keyHash P s163, (.str s163 183), (.bool true)⟩, ⟨PyData.keyHash P s164, (.str s164 185), (.ref 14)⟩, ⟨PyData.keyHash P s165, (.str s165 206), (.ref 18)⟩, ⟨PyData.keyHash P s166, (.str s166 216), (.ref 22)⟩, ⟨PyData.keyHash P s167, (.str s167 245), (.int 4 0)⟩, ⟨PyData.keyHash P s168, (.str s168 270), (.bool true)⟩, ⟨PyData.keyHash P s169, (.str s169 272), (.ref 27)⟩, ⟨PyData.keyHash P s170, (.str s170 0), (.str s171 0)⟩, ⟨PyData.keyHash P s172, (.str s172 273), (.str s173 0)⟩, ⟨PyData.keyHash P s174, (.str s174 280), (.bool true)⟩, ⟨PyData.keyHash P s175, (.str s175 294), (.bool true)⟩, ⟨PyData.keyHash P s176, (.str s176 309), (.bool true)⟩, ⟨PyData.keyHash P s177, (.str s177 311), (.str s178 0)⟩, ⟨PyData.keyHash P s241, (.str s241 422), (.int 82 0)⟩, ⟨PyData.keyHash P s242, (.str s242 423), (.int 1 0)⟩]⟩ 15) }
noncomputable def q39 (P : Params) : Obj := { cls := (.type PySem.W.SL.s14018661285674007319x4), data := (.dict ⟨[⟨PyData.keyHash P s0, (.str s0 165), (.str s243 386)⟩, ⟨PyData.keyHash P s2, (.str s2 166), .none⟩, ⟨PyData.keyHash P s3, (.str s3 167), .none⟩, ⟨PyData.keyHash P s4, (.str s4 168), (.builtin PySem.W.SL.s7097527257260152453x26)⟩, ⟨PyData.keyHash P s5, (.str s5 169), .none⟩, ⟨PyData.keyHash P s179, (.str s179 170), (.ref 6)⟩, ⟨PyData.keyHash P s180, (.str s180 171), (.ref 4)⟩, ⟨PyData.keyHash P s181, (.str s181 173), (.str s182 172)⟩, ⟨PyData.keyHash P s183, (.str s183 174), .none⟩, ⟨PyData.keyHash P s161, (.str s161 275), (.ref 12)⟩, ⟨PyData.keyHash P s184, (.str s184 317), (.type PySem.W.SL.s5314052453082223887x17)⟩, ⟨PyData.keyHash P s244, (.str s244 330), (.ref 44)⟩, ⟨PyData.keyHash P s245, (.str s245 333), (.ref 45)⟩, ⟨PyData.keyHash P s246, (.str s246 345), (.ref 53)⟩, ⟨PyData.keyHash P s247, (.str s247 385), (.ref 58)⟩, ⟨PyData.keyHash P s248, (.str s248 395), (.ref 65)⟩, ⟨PyData.keyHash P s249, (.str s249 403), (.ref 72)⟩, ⟨PyData.keyHash P s250, (.str s250 425), (.ref 82)⟩, ⟨PyData.keyHash P s251, (.str s251 457), (.ref 102)⟩, ⟨PyData.keyHash P s252, (.str s252 475), (.ref 117)⟩, ⟨PyData.keyHash P s253, (.str s253 493), (.ref 129)⟩]⟩ 21) }
noncomputable def q40 (P : Params) : Obj := { cls := .none, data := (.fields ⟨[(.int 3 0), (.int 0 0), (.ref 43), (.int 8 0), (.int 0 0), (.ref 52), (.int 22 0), (.int 0 0), (.ref 64), (.int 27 0), (.int 0 0), (.ref 71), (.int 34 0), (.int 0 0), (.ref 78), (.int 36 0), (.int 0 0), (.ref 91), (.int 43 0), (.int 0 0), (.ref 113), (.int 45 0), (.int 0 0), (.ref 125)]⟩) }
noncomputable def q41 (P : Params) : Obj := { cls := (.type PySem.W.SL.s2766695959194262286x5), data := (.seq ⟨[]⟩ 0) }
noncomputable def q42 (P : Params) : Obj := { cls := .none, data := (.fields ⟨[]⟩) }
noncomputable def q43 (P : Params) : Obj := { cls := (.type PySem.W.SL.s2766695959194262286x5), data := (.seq ⟨[(.str s254 327)]⟩ 0) }
noncomputable def q44 (P : Params) : Obj := { cls := (.type PySem.W.SL.s2766695959194262286x5), data := (.seq ⟨[]⟩ 0) }
noncomputable def q45 (P : Params) : Obj := fnY (xT 2) s244
noncomputable def q46 (P : Params) : Obj := { cls := (.type PySem.W.SL.s5856160107412720595x4), data := (.fields ⟨[(.str s244 324), (.str s244 325), (.str s182 326), (.int 3 0), (.int 1 0), (.int 0 0), (.int 0 0), (.int 3 0), (.ref 38), (.bool true), (.int 318 0), (.ref 39), .none, (.ref 40), (.ref 41), (.ref 42), (.int 328 0), (.int 3 0), (.str s182 329)]⟩) }
noncomputable def q47 (P : Params) : Obj := fnX (xT 2) s244 .none (.str s160 164) 43
noncomputable def q48 (P : Params) : Obj := { cls := (.type PySem.W.SL.s2742458400755230247x6) }
noncomputable def q49 (P : Params) : Obj := { cls := (.type PySem.W.SL.s2766695959194262286x5), data := (.seq ⟨[(.ref 45)]⟩ 0) }
noncomputable def q50 (P : Params) : Obj := { cls := (.type PySem.W.SL.s2766695959194262286x5), data := (.seq ⟨[]⟩ 0) }
noncomputable def q51 (P : Params) : Obj := { cls := .none, data := (.fields ⟨[]⟩) }
noncomputable def q52 (P : Params) : Obj := { cls := (.type PySem.W.SL.s2766695959194262286x5), data := (.seq ⟨[(.str s255 337), (.str s256 338), (.str s257 339), (.str s258 340), (.str s259 341), (.str s260 342)]⟩ 0) }
noncomputable def q53 (P : Params) : Obj := { cls := (.type PySem.W.SL.s2766695959194262286x5), data := (.seq ⟨[]⟩ 0) }
noncomputable def q54 (P : Params) : Obj := fnY (xT 5) s246
noncomputable def q55 (P : Params) : Obj := { cls := (.type PySem.W.SL.s5856160107412720595x4), data := (.fields ⟨[(.str s246 334), (.str s246 335), (.str s182 336), (.int 8 0), (.int 3 0), (.int 0 0), (.int 0 0), (.int 3 0), (.ref 47), (.bool true), (.int 318 0), (.ref 48), .none, (.ref 49), (.ref 50), (.ref 51), (.int 343 0), (.int 8 0), (.str s182 344)]⟩) }
noncomputable def q56 (P : Params) : Obj := fnX (xT 5) s246 (.ref 46) (.str s261 331) 52
noncomputable def q57 (P : Params) : Obj := { cls := (.type PySem.W.SL.s9222952809800978799x4), data := (.seq ⟨[(.int 14 349), (.int 17 350), (.int 4 351), (.int 1 352), (.int 1 353), (.int 21 354), (.int 9 355), (.int 0 356), (.int 604043296 357), (.int 1 358), (.int 0 359), (.int 0 360), (.int 0 361), (.int 0 362), (.int 0 363), (.int 8 364), (.int 4 365), (.int 0 366), (.int 13 367), (.int 14 368), (.int 21 369), (.int 9 370), (.int 0 371), (.int 604043296 372), (.int 1 373), (.int 0 374), (.int 0 375), (.int 0 376), (.int 0 377), (.int 0 378), (.int 8 379), (.int 4 380), (.int 0 381), (.int 1 382)]⟩ 0) }
noncomputable def q58 (P : Params) : Obj := { cls := (.type PySem.W.SL.s14018661285674007319x4), data := (.dict ⟨[]⟩ 0) }
noncomputable def q59 (P : Params) : Obj := { cls := (.type PySem.W.SL.s2766695959194262286x5), data := (.seq ⟨[.none]⟩ 0) }
noncomputable def q60 (P : Params) : Obj := { cls := (.type PySem.W.SL.s2766695959194262286x5), data := (.seq ⟨[(.int 14 0), (.int 17 0), (.int 4 0), (.int 1 0), (.int 1 0), (.int 21 0), (.int 9 0), (.int 0 0), (.int 604043296 0), (.int 1 0), (.int 0 0), (.int 0 0), (.int 0 0), (.int 0 0), (.int 0 0), (.int 8 0), (.int 4 0), (.int 0 0), (.int 13 0), (.int 14 0), (.int 21 0), (.int 9 0), (.int 0 0), (.int 604043296 0), (.int 1 0), (.int 0 0), (.int 0 0), (.int 0 0), (.int 0 0), (.int 0 0), (.int 8 0), (.int 4 0), (.int 0 0), (.int 1 0)]⟩ 0) }
noncomputable def q61 (P : Params) : Obj := { cls := (.type PySem.W.SL.s12171344214640291687x10), data := (.fields ⟨[(.str s262 347), (.int 256 384), (.int 0 0), .none, .none, (.ref 57), (.int 0 0)]⟩) }
noncomputable def q62 (P : Params) : Obj := { cls := (.type PySem.W.SL.s2766695959194262286x5), data := (.seq ⟨[]⟩ 0) }
noncomputable def q63 (P : Params) : Obj := { cls := .none, data := (.fields ⟨[]⟩) }
noncomputable def q64 (P : Params) : Obj := { cls := (.type PySem.W.SL.s2766695959194262286x5), data := (.seq ⟨[(.str s263 391), (.str s264 392)]⟩ 0) }
noncomputable def q65 (P : Params) : Obj := { cls := (.type PySem.W.SL.s2766695959194262286x5), data := (.seq ⟨[]⟩ 0) }
noncomputable def q66 (P : Params) : Obj := fnY (xT 8) s248
noncomputable def q67 (P : Params) : Obj := { cls := (.type PySem.W.SL.s5856160107412720595x4), data := (.fields ⟨[(.str s248 388), (.str s248 389), (.str s182 390), (.int 22 0), (.int 2 0), (.int 0 0), (.int 0 0), (.int 3 0), (.ref 59), (.bool true), (.int 318 0), (.ref 60), .none, (.ref 61), (.ref 62), (.ref 63), (.int 393 0), (.int 22 0), (.str s182 394)]⟩) }
noncomputable def q68 (P : Params) : Obj := fnX (xT 8) s248 .none (.str s243 386) 64
noncomputable def q69 (P : Params) : Obj := { cls := (.type PySem.W.SL.s2766695959194262286x5), data := (.seq ⟨[]⟩ 0) }
noncomputable def q70 (P : Params) : Obj := { cls := .none, data := (.fields ⟨[]⟩) }
noncomputable def q71 (P : Params) : Obj := { cls := (.type PySem.W.SL.s2766695959194262286x5), data := (.seq ⟨[(.str s263 399), (.str s264 400)]⟩ 0) }
noncomputable def q72 (P : Params) : Obj := { cls := (.type PySem.W.SL.s2766695959194262286x5), data := (.seq ⟨[]⟩ 0) }
noncomputable def q73 (P : Params) : Obj := fnY (xT 9) s249
noncomputable def q74 (P : Params) : Obj := { cls := (.type PySem.W.SL.s5856160107412720595x4), data := (.fields ⟨[(.str s249 396), (.str s249 397), (.str s182 398), (.int 27 0), (.int 2 0), (.int 0 0), (.int 0 0), (.int 3 0), (.ref 66), (.bool true), (.int 318 0), (.ref 67), .none, (.ref 68), (.ref 69), (.ref 70), (.int 401 0), (.int 27 0), (.str s182 402)]⟩) }
noncomputable def q75 (P : Params) : Obj := fnX (xT 9) s249 .none (.str s243 386) 71
noncomputable def q76 (P : Params) : Obj := { cls := (.type PySem.W.SL.s2766695959194262286x5), data := (.seq ⟨[(.type PySem.W.SL.s10852414792293593619x7), (.type PySem.W.SL.s6070975301684473832x10)]⟩ 0) }
noncomputable def q77 (P : Params) : Obj := { cls := (.type PySem.W.SL.s11030030927630378310x26), data := (.fields ⟨[(.builtin PySem.W.SL.s10062305145149207511x16), (.type PySem.W.SL.s17162191345867700912x4)]⟩) }
noncomputable def q78 (P : Params) : Obj := { cls := (.type PySem.W.SL.s14018661285674007319x4), data := (.dict ⟨[⟨PyData.keyHash P s198, (.str s198 411), (.str s243 416)⟩, ⟨PyData.keyHash P s265, (.str s265 413), (.str s250 412)⟩, ⟨PyData.keyHash P s200, (.str s200 415), (.int 34 414)⟩, ⟨PyData.keyHash P s210, (.str s210 418), (.ref 80)⟩]⟩ 4) }
noncomputable def q79 (P : Params) : Obj := { cls := (.type PySem.W.SL.s2766695959194262286x5), data := (.seq ⟨[]⟩ 0) }
noncomputable def q80 (P : Params) : Obj := { cls := .none, data := (.fields ⟨[]⟩) }
noncomputable def q81 (P : Params) : Obj := { cls := (.type PySem.W.SL.s5856160107412720595x4), data := (.fields ⟨[(.str s250 406), (.str s250 407), (.str s182 408), (.int 34 0), (.int 0 0), (.int 0 0), (.int 0 0), (.int 0 0), (.ref 76), (.bool false), (.int 318 0), (.ref 77), .none, .none, .none, .none, (.int 409 0), (.int 34 0), (.str s182 410)]⟩) }
noncomputable def q82 (P : Params) : Obj := { cls := (.type PySem.W.SL.s658472552662922059x5), slots := ⟨[some (.ref 78), some (.ref 3), some (.ref 75), none, some (.str s243 386), none, some (.ref 0)]⟩ }
noncomputable def q83 (P : Params) : Obj := { cls := (.type PySem.W.SL.s2766695959194262286x5), data := (.seq ⟨[]⟩ 0) }
noncomputable def q84 (P : Params) : Obj := { cls := (.type PySem.W.SL.s14018661285674007319x4), data := (.dict ⟨[⟨PyData.keyHash P s198, (.str s198 411), (.str s243 416)⟩, ⟨PyData.keyHash P s200, (.str s200 415), (.int 34 414)⟩, ⟨PyData.keyHash P s210, (.str s210 418), (.ref 80)⟩, ⟨PyData.keyHash P s212, (.str s212 420), (.ref 83)⟩, ⟨PyData.keyHash P s2, (.str s2 421), .none⟩]⟩ 3) }
noncomputable def q85 (P : Params) : Obj := { cls := (.type PySem.W.SL.s17162191345867700912x4), data := (.cls { name := s250, bases := [(.type PySem.W.SL.s10852414792293593619x7), (.type PySem.W.SL.s6070975301684473832x10)], mro := [(.ref 82), (.type PySem.W.SL.s10852414792293593619x7), (.type PySem.W.SL.s6070975301684473832x10), (.type PySem.W.SL.s5946037652744460706x9), (.type PySem.W.SL.s4278001404047624695x13), (.type PySem.W.SL.s2742458400755230247x6)], ns := 81, qualname := s250, hasDict := true, slotNames := [], subclasses := [], abstract := false, collection := none, hasDel := false }), slots := ⟨[some (.ref 73), none, some (.str s250 404), some (.str s250 412), some (.builtin PySem.W.SL.s2438369993680799366x15), some (.bool true)]⟩ }
noncomputable def q86 (P : Params) : Obj := { cls := (.type PySem.W.SL.s14755015743595814543x17), data := (.fields ⟨[(.str s212 419), (.ref 82), (.builtin PySem.W.SL.s10220274742760427390x26), .none]⟩) }
noncomputable def q87 (P : Params) : Obj := { cls := (.type PySem.W.SL.s4290257624100764138x5), data := (.fields ⟨[(.ref 82), (.ref 82), (.ref 82)]⟩) }
noncomputable def q88 (P : Params) : Obj := { cls := (.type PySem.W.SL.s11030030927630378310x26), data := (.fields ⟨[(.builtin PySem.W.SL.s4860613602091757760x24), (.ref 82)]⟩) }
noncomputable def q89 (P : Params) : Obj := { cls := (.type PySem.W.SL.s2766695959194262286x5), data := (.seq ⟨[]⟩ 0) }
noncomputable def q90 (P : Params) : Obj := { cls := (.type PySem.W.SL.s11030030927630378310x26), data := (.fields ⟨[(.builtin PySem.W.SL.s10062305145149207511x16), (.type PySem.W.SL.s17162191345867700912x4)]⟩) }
noncomputable def q91 (P : Params) : Obj := { cls := (.type PySem.W.SL.s14018661285674007319x4), data := (.dict ⟨[⟨PyData.keyHash P s198, (.str s198 433), (.str s243 438)⟩, ⟨PyData.keyHash P s265, (.str s265 435), (.str s251 434)⟩, ⟨PyData.keyHash P s200, (.str s200 437), (.int 36 436)⟩, ⟨PyData.keyHash P s266, (.str s266 448), (.ref 99)⟩, ⟨PyData.keyHash P s210, (.str s210 449), (.ref 100)⟩]⟩ 5) }
noncomputable def q92 (P : Params) : Obj := { cls := (.type PySem.W.SL.s2766695959194262286x5), data := (.seq ⟨[]⟩ 0) }
noncomputable def q93 (P : Params) : Obj := { cls := .none, data := (.fields ⟨[(.int 39 0), (.int 4 0), (.ref 98)]⟩) }
noncomputable def q94 (P : Params) : Obj := { cls := (.type PySem.W.SL.s5856160107412720595x4), data := (.fields ⟨[(.str s251 428), (.str s251 429), (.str s182 430), (.int 36 0), (.int 0 0), (.int 0 0), (.int 0 0), (.int 0 0), (.ref 89), (.bool false), (.int 318 0), (.ref 90), .none, .none, .none, .none, (.int 431 0), (.int 36 0), (.str s182 432)]⟩) }
noncomputable def q95 (P : Params) : Obj := { cls := (.type PySem.W.SL.s658472552662922059x5), slots := ⟨[some (.ref 91), some (.ref 3), some (.ref 88), none, some (.str s243 386), none, some (.ref 0)]⟩ }
noncomputable def q96 (P : Params) : Obj := { cls := (.type PySem.W.SL.s2766695959194262286x5), data := (.seq ⟨[]⟩ 0) }
noncomputable def q97 (P : Params) : Obj := { cls := .none, data := (.fields ⟨[]⟩) }
noncomputable def q98 (P : Params) : Obj := { cls := (.type PySem.W.SL.s2766695959194262286x5), data := (.seq ⟨[(.str s267 443), (.str s268 444), (.str s269 445)]⟩ 0) }
noncomputable def q99 (P : Params) : Obj := { cls := (.type PySem.W.SL.s2766695959194262286x5), data := (.seq ⟨[]⟩ 0) }
noncomputable def q100 (P : Params) : Obj := fnY (xC 11 1) s270
noncomputable def q101 (P : Params) : Obj := { cls := (.type PySem.W.SL.s5856160107412720595x4), data := (.fields ⟨[(.str s266 440), (.str s270 441), (.str s182 442), (.int 39 0), (.int 1 0), (.int 1 0), (.int 0 0), (.int 15 0), (.ref 93), (.bool true), (.int 318 0), (.ref 94), .none, (.ref 95), (.ref 96), (.ref 97), (.int 446 0), (.int 39 0), (.str s182 447)]⟩) }
noncomputable def q102 (P : Params) : Obj := fnX (xC 11 1) s270 .none (.str s243 386) 98
noncomputable def q103 (P : Params) : Obj := { cls := (.type PySem.W.SL.s2766695959194262286x5), data := (.seq ⟨[]⟩ 0) }
noncomputable def q104 (P : Params) : Obj := { cls := (.type PySem.W.SL.s14018661285674007319x4), data := (.dict ⟨[⟨PyData.keyHash P s198, (.str s198 433), (.str s243 438)⟩, ⟨PyData.keyHash P s200, (.str s200 437), (.int 36 436)⟩, ⟨PyData.keyHash P s266, (.str s266 448), (.ref 103)⟩, ⟨PyData.keyHash P s210, (.str s210 449), (.ref 100)⟩, ⟨PyData.keyHash P s211, (.str s211 452), (.ref 104)⟩, ⟨PyData.keyHash P s212, (.str s212 454), (.ref 105)⟩, ⟨PyData.keyHash P s2, (.str s2 455), .none⟩]⟩ 4) }
noncomputable def q105 (P : Params) : Obj := { cls := (.type PySem.W.SL.s17162191345867700912x4), data := (.cls { name := s251, bases := [(.type PySem.W.SL.s2742458400755230247x6)], mro := [(.ref 102), (.type PySem.W.SL.s2742458400755230247x6)], ns := 101, qualname := s251, hasDict := true, slotNames := [], subclasses := [(.ref 117), (.ref 129)], abstract := false, collection := none, hasDel := false }), slots := ⟨[none, none, some (.str s251 426), some (.str s251 434), some .none, some (.bool true)]⟩ }
noncomputable def q106 (P : Params) : Obj := { cls := (.type PySem.W.SL.s16656946322747308186x12), data := (.fields ⟨[(.ref 99)]⟩) }
noncomputable def q107 (P : Params) : Obj := { cls := (.type PySem.W.SL.s14755015743595814543x17), data := (.fields ⟨[(.str s211 451), (.ref 102), (.builtin PySem.W.SL.s6511155373996960695x17), (.builtin PySem.W.SL.s12411053484034534018x21)]⟩) }
noncomputable def q108 (P : Params) : Obj := { cls := (.type PySem.W.SL.s14755015743595814543x17), data := (.fields ⟨[(.str s212 453), (.ref 102), (.builtin PySem.W.SL.s10220274742760427390x26), .none]⟩) }
noncomputable def q109 (P : Params) : Obj := { cls := (.type PySem.W.SL.s4290257624100764138x5), data := (.fields ⟨[(.ref 102), (.ref 102), (.ref 102)]⟩) }
noncomputable def q110 (P : Params) : Obj := { cls := (.type PySem.W.SL.s11030030927630378310x26), data := (.fields ⟨[(.builtin PySem.W.SL.s4860613602091757760x24), (.ref 102)]⟩) }
noncomputable def q111 (P : Params) : Obj := { cls := (.type PySem.W.SL.s2766695959194262286x5), data := (.seq ⟨[(.ref 102)]⟩ 0) }
noncomputable def q112 (P : Params) : Obj := { cls := (.type PySem.W.SL.s11030030927630378310x26), data := (.fields ⟨[(.builtin PySem.W.SL.s10062305145149207511x16), (.type PySem.W.SL.s17162191345867700912x4)]⟩) }
noncomputable def q113 (P : Params) : Obj := { cls := (.type PySem.W.SL.s14018661285674007319x4), data := (.dict ⟨[⟨PyData.keyHash P s198, (.str s198 465), (.str s243 470)⟩, ⟨PyData.keyHash P s265, (.str s265 467), (.str s252 466)⟩, ⟨PyData.keyHash P s200, (.str s200 469), (.int 43 468)⟩, ⟨PyData.keyHash P s210, (.str s210 472), (.ref 115)⟩]⟩ 4) }
noncomputable def q114 (P : Params) : Obj := { cls := (.type PySem.W.SL.s2766695959194262286x5), data := (.seq ⟨[]⟩ 0) }
noncomputable def q115 (P : Params) : Obj := { cls := .none, data := (.fields ⟨[]⟩) }
noncomputable def q116 (P : Params) : Obj := { cls := (.type PySem.W.SL.s5856160107412720595x4), data := (.fields ⟨[(.str s252 460), (.str s252 461), (.str s182 462), (.int 43 0), (.int 0 0), (.int 0 0), (.int 0 0), (.int 0 0), (.ref 111), (.bool false), (.int 318 0), (.ref 112), .none, .none, .none, .none, (.int 463 0), (.int 43 0), (.str s182 464)]⟩) }
noncomputable def q117 (P : Params) : Obj := { cls := (.type PySem.W.SL.s658472552662922059x5), slots := ⟨[some (.ref 113), some (.ref 3), some (.ref 110), none, some (.str s243 386), none, some (.ref 0)]⟩ }
noncomputable def q118 (P : Params) : Obj := { cls := (.type PySem.W.SL.s2766695959194262286x5), data := (.seq ⟨[]⟩ 0) }
noncomputable def q119 (P : Params) : Obj := { cls := (.type PySem.W.SL.s14018661285674007319x4), data := (.dict ⟨[⟨PyData.keyHash P s198, (.str s198 465), (.str s243 470)⟩, ⟨PyData.keyHash P s200, (.str s200 469), (.int 43 468)⟩, ⟨PyData.keyHash P s210, (.str s210 472), (.ref 115)⟩, ⟨PyData.keyHash P s2, (.str s2 473), .none⟩]⟩ 2) }
noncomputable def q120 (P : Params) : Obj := { cls := (.type PySem.W.SL.s17162191345867700912x4), data := (.cls { name := s252, bases := [(.ref 102)], mro := [(.ref 117), (.ref 102), (.type PySem.W.SL.s2742458400755230247x6)], ns := 116, qualname := s252, hasDict := true, slotNames := [], subclasses := [], abstract := false, collection := none, hasDel := false }), slots := ⟨[some (.ref 108), none, some (.str s252 458), some (.str s252 466), some .none, some (.bool true)]⟩ }
noncomputable def q121 (P : Params) : Obj := { cls := (.type PySem.W.SL.s4290257624100764138x5), data := (.fields ⟨[(.ref 117), (.ref 117), (.ref 117)]⟩) }
noncomputable def q122 (P : Params) : Obj := { cls := (.type PySem.W.SL.s11030030927630378310x26), data := (.fields ⟨[(.builtin PySem.W.SL.s4860613602091757760x24), (.ref 117)]⟩) }
noncomputable def q123 (P : Params) : Obj := { cls := (.type PySem.W.SL.s2766695959194262286x5), data := (.seq ⟨[(.ref 102)]⟩ 0) }
noncomputable def q124 (P : Params) : Obj := { cls := (.type PySem.W.SL.s11030030927630378310x26), data := (.fields ⟨[(.builtin PySem.W.SL.s10062305145149207511x16), (.type PySem.W.SL.s17162191345867700912x4)]⟩) }
noncomputable def q125 (P : Params) : Obj := { cls := (.type PySem.W.SL.s14018661285674007319x4), data := (.dict ⟨[⟨PyData.keyHash P s198, (.str s198 483), (.str s243 488)⟩, ⟨PyData.keyHash P s265, (.str s265 485), (.str s253 484)⟩, ⟨PyData.keyHash P s200, (.str s200 487), (.int 45 486)⟩, ⟨PyData.keyHash P s210, (.str s210 490), (.ref 127)⟩]⟩ 4) }
noncomputable def q126 (P : Params) : Obj := { cls := (.type PySem.W.SL.s2766695959194262286x5), data := (.seq ⟨[]⟩ 0) }
noncomputable def q127 (P : Params) : Obj := { cls := .none, data := (.fields ⟨[]⟩) }
noncomputable def q128 (P : Params) : Obj := { cls := (.type PySem.W.SL.s5856160107412720595x4), data := (.fields ⟨[(.str s253 478), (.str s253 479), (.str s182 480), (.int 45 0), (.int 0 0), (.int 0 0), (.int 0 0), (.int 0 0), (.ref 123), (.bool false), (.int 318 0), (.ref 124), .none, .none, .none, .none, (.int 481 0), (.int 45 0), (.str s182 482)]⟩) }
noncomputable def q129 (P : Params) : Obj := { cls := (.type PySem.W.SL.s658472552662922059x5), slots := ⟨[some (.ref 125), some (.ref 3), some (.ref 122), none, some (.str s243 386), none, some (.ref 0)]⟩ }
noncomputable def q130 (P : Params) : Obj := { cls := (.type PySem.W.SL.s2766695959194262286x5), data := (.seq ⟨[]⟩ 0) }
noncomputable def q131 (P : Params) : Obj := { cls := (.type PySem.W.SL.s14018661285674007319x4), data := (.dict ⟨[⟨PyData.keyHash P s198, (.str s198 483), (.str s243 488)⟩, ⟨PyData.keyHash P s200, (.str s200 487), (.int 45 486)⟩, ⟨PyData.keyHash P s210, (.str s210 490), (.ref 127)⟩, ⟨PyData.keyHash P s2, (.str s2 491), .none⟩]⟩ 2) }
noncomputable def q132 (P : Params) : Obj := { cls := (.type PySem.W.SL.s17162191345867700912x4), data := (.cls { name := s253, bases := [(.ref 102)], mro := [(.ref 129), (.ref 102), (.type PySem.W.SL.s2742458400755230247x6)], ns := 128, qualname := s253, hasDict := true, slotNames := [], subclasses := [], abstract := false, collection := none, hasDel := false }), slots := ⟨[some (.ref 120), none, some (.str s253 476), some (.str s253 484), some .none, some (.bool true)]⟩ }
noncomputable def q133 (P : Params) : Obj := { cls := (.type PySem.W.SL.s4290257624100764138x5), data := (.fields ⟨[(.ref 129), (.ref 129), (.ref 129)]⟩) }
noncomputable def q134 (P : Params) : Obj := { cls := (.type PySem.W.SL.s11030030927630378310x26), data := (.fields ⟨[(.builtin PySem.W.SL.s4860613602091757760x24), (.ref 129)]⟩) }
noncomputable def T1 (P : Params) : BT := (.node (q0 P) (.node (q1 P) (.node (q39 P) (.node (q7 P) (.node (q15 P) (.node (q31 P) (.node (q66 P) (.node (q130 P) .nil .nil) .nil) (.node (q98 P) .nil .nil)) (.node (q50 P) (.node (q82 P) .nil .nil) (.node (q114 P) .nil .nil))) (.node (q23 P) (.node (q42 P) (.node (q74 P) .nil .nil) (.node (q106 P) .nil .nil)) (.node (q58 P) (.node (q90 P) .nil .nil) (.node (q122 P) .nil .nil)))) (.node (q11 P) (.node (q19 P) (.node (q40 P) (.node (q70 P) (.node (q134 P) .nil .nil) .nil) (.node (q102 P) .nil .nil)) (.node (q54 P) (.node (q86 P) .nil .nil) (.node (q118 P) .nil .nil))) (.node (q27 P) (.node (q46 P) (.node (q78 P) .nil .nil) (.node (q110 P) .nil .nil)) (.node (q62 P) (.node (q94 P) .nil .nil) (.node (q126 P) .nil .nil))))) (.node (q5 P) (.node (q9 P) (.node (q17 P) (.node (q33 P) (.node (q68 P) (.node (q132 P) .nil .nil) .nil) (.node (q100 P) .nil .nil)) (.node (q52 P) (.node (q84 P) .nil .nil) (.node (q116 P) .nil .nil))) (.node (q25 P) (.node (q44 P) (.node (q76 P) .nil .nil) (.node (q108 P) .nil .nil)) (.node (q60 P) (.node (q92 P) .nil .nil) (.node (q124 P) .nil .nil)))) (.node (q13 P) (.node (q21 P) (.node (q37 P) (.node (q72 P) .nil .nil) (.node (q104 P) .nil .nil)) (.node (q56 P) (.node (q88 P) .nil .nil) (.node (q120 P) .nil .nil))) (.node (q29 P) (.node (q48 P) (.node (q80 P) .nil .nil) (.node (q112 P) .nil .nil)) (.node (q64 P) (.node (q96 P) .nil .nil) (.node (q128 P) .nil .nil)))))) (.node (q38 P) (.node (q4 P) (.node (q8 P) (.node (q16 P) (.node (q32 P) (.node (q67 P) (.node (q131 P) .nil .nil) .nil) (.node (q99 P) .nil .nil)) (.node (q51 P) (.node (q83 P) .nil .nil) (.node (q115 P) .nil .nil))) (.node (q24 P) (.node (q43 P) (.node (q75 P) .nil .nil) (.node (q107 P) .nil .nil)) (.node (q59 P) (.node (q91 P) .nil .nil) (.node (q123 P) .nil .nil)))) (.node (q12 P) (.node (q20 P) (.node (q36 P) (.node (q71 P) .nil .nil) (.node (q103 P) .nil .nil)) (.node (q55 P) (.node (q87 P) .nil .nil) (.node (q119 P) .nil .nil))) (.node (q28 P) (.node (q47 P) (.node (q79 P) .nil .nil) (.node (q111 P) .nil .nil)) (.node (q63 P) (.node (q95 P) .nil .nil) (.node (q127 P) .nil .nil))))) (.node (q6 P) (.node (q10 P) (.node (q18 P) (.node (q34 P) (.node (q69 P) (.node (q133 P) .nil .nil) .nil) (.node (q101 P) .nil .nil)) (.node (q53 P) (.node (q85 P) .nil .nil) (.node (q117 P) .nil .nil))) (.node (q26 P) (.node (q45 P) (.node (q77 P) .nil .nil) (.node (q109 P) .nil .nil)) (.node (q61 P) (.node (q93 P) .nil .nil) (.node (q125 P) .nil .nil)))) (.node (q14 P) (.node (q22 P) (.node (q41 P) (.node (q73 P) .nil .nil) (.node (q105 P) .nil .nil)) (.node (q57 P) (.node (q89 P) .nil .nil) (.node (q121 P) .nil .nil))) (.node (q30 P) (.node (q49 P) (.node (q81 P) .nil .nil) (.node (q113 P) .nil .nil)) (.node (q65 P) (.node (q97 P) .nil .nil) (.node (q129 P) .nil .nil)))))))
noncomputable def q135 (P : Params) : Obj := { cls := (.type PySem.W.SL.s14018661285674007319x4), data := (.dict ⟨[⟨PyData.keyHash P s0, (.str s0 165), (.str s243 386)⟩, ⟨PyData.keyHash P s2, (.str s2 166), .none⟩, ⟨PyData.keyHash P s3, (.str s3 167), .none⟩, ⟨PyData.keyHash P s4, (.str s4 168), (.builtin PySem.W.SL.s7097527257260152453x26)⟩, ⟨PyData.keyHash P s5, (.str s5 169), .none⟩, ⟨PyData.keyHash P s179, (.str s179 170), (.ref 6)⟩, ⟨PyData.keyHash P s180, (.str s180 171), (.ref 4)⟩, ⟨PyData.keyHash P s181, (.str s181 173), (.str s182 172)⟩, ⟨PyData.keyHash P s183, (.str s183 174), .none⟩, ⟨PyData.keyHash P s161, (.str s161 275), (.ref 12)⟩, ⟨PyData.keyHash P s184, (.str s184 317), (.type PySem.W.SL.s5314052453082223887x17)⟩, ⟨PyData.keyHash P s244, (.str s244 330), (.ref 44)⟩, ⟨PyData.keyHash P s245, (.str s245 333), (.ref 45)⟩, ⟨PyData.keyHash P s246, (.str s246 345), (.ref 53)⟩, ⟨PyData.keyHash P s247, (.str s247 385), (.ref 58)⟩, ⟨PyData.keyHash P s248, (.str s248 395), (.ref 65)⟩, ⟨PyData.keyHash P s249, (.str s249 403), (.ref 72)⟩, ⟨PyData.keyHash P s250, (.str s250 425), (.ref 82)⟩, ⟨PyData.keyHash P s251, (.str s251 457), (.ref 102)⟩, ⟨PyData.keyHash P s252, (.str s252 475), (.ref 117)⟩, ⟨PyData.keyHash P s253, (.str s253 493), (.ref 129)⟩, ⟨PyData.keyHash P s271, (.str s271 755), (.ref 359)⟩]⟩ 22) }
noncomputable def q136 (P : Params) : Obj := { cls := .none, data := (.fields ⟨[(.int 3 0), (.int 0 0), (.ref 43), (.int 8 0), (.int 0 0), (.ref 52), (.int 22 0), (.int 0 0), (.ref 64), (.int 27 0), (.int 0 0), (.ref 71), (.int 34 0), (.int 0 0), (.ref 78), (.int 36 0), (.int 0 0), (.ref 91), (.int 43 0), (.int 0 0), (.ref 113), (.int 45 0), (.int 0 0), (.ref 125), (.int 47 0), (.int 0 0), (.ref 137)]⟩) }
noncomputable def q137 (P : Params) : Obj := { cls := (.type PySem.W.SL.s17162191345867700912x4), data := (.cls { name := s252, bases := [(.ref 102)], mro := [(.ref 117), (.ref 102), (.type PySem.W.SL.s2742458400755230247x6)], ns := 116, qualname := s252, hasDict := true, slotNames := [], subclasses := [(.ref 359)], abstract := false, collection := none, hasDel := false }), slots := ⟨[some (.ref 108), none, some (.str s252 458), some (.str s252 466), some .none, some (.bool true)]⟩ }
noncomputable def q138 (P : Params) : Obj := { cls := (.type PySem.W.SL.s2766695959194262286x5), data := (.seq ⟨[(.ref 117)]⟩ 0) }
noncomputable def q139 (P : Params) : Obj := { cls := (.type PySem.W.SL.s11030030927630378310x26), data := (.fields ⟨[(.builtin PySem.W.SL.s10062305145149207511x16), (.type PySem.W.SL.s17162191345867700912x4)]⟩) }
noncomputable def q140 (P : Params) : Obj := { cls := (.type PySem.W.SL.s14018661285674007319x4), data := (.dict ⟨[⟨PyData.keyHash P s198, (.str s198 501), (.str s272 506)⟩, ⟨PyData.keyHash P s265, (.str s265 503), (.str s271 502)⟩, ⟨PyData.keyHash P s200, (.str s200 505), (.int 47 504)⟩, ⟨PyData.keyHash P s225, (.str s225 515), (.ref 146)⟩, ⟨PyData.keyHash P s273, (.str s273 522), (.ref 153)⟩, ⟨PyData.keyHash P s274, (.str s274 533), (.ref 160)⟩, ⟨PyData.keyHash P s275, (.str s275 541), (.ref 168)⟩, ⟨PyData.keyHash P s276, (.str s276 548), (.ref 175)⟩, ⟨PyData.keyHash P s277, (.str s277 555), (.ref 182)⟩, ⟨PyData.keyHash P s278, (.str s278 563), (.ref 189)⟩, ⟨PyData.keyHash P s279, (.str s279 570), (.ref 196)⟩, ⟨PyData.keyHash P s280, (.str s280 577), (.ref 203)⟩, ⟨PyData.keyHash P s281, (.str s281 584), (.ref 210)⟩, ⟨PyData.keyHash P s282, (.str s282 591), (.ref 217)⟩, ⟨PyData.keyHash P s283, (.str s283 598), (.ref 224)⟩, ⟨PyData.keyHash P s284, (.str s284 605), (.ref 231)⟩, ⟨PyData.keyHash P s285, (.str s285 612), (.ref 238)⟩, ⟨PyData.keyHash P s286, (.str s286 619), (.ref 245)⟩, ⟨PyData.keyHash P s287, (.str s287 626), (.ref 252)⟩, ⟨PyData.keyHash P s288, (.str s288 633), (.ref 259)⟩, ⟨PyData.keyHash P s289, (.str s289 643), (.ref 267)⟩, ⟨PyData.keyHash P s290, (.str s290 651), (.ref 275)⟩, ⟨PyData.keyHash P s291, (.str s291 663), (.ref 283)⟩, ⟨PyData.keyHash P s292, (.str s292 673), (.ref 291)⟩, ⟨PyData.keyHash P s293, (.str s293 683), (.ref 298)⟩, ⟨PyData.keyHash P s294, (.str s294 691), (.ref 305)⟩, ⟨PyData.keyHash P s295, (.str s295 701), (.ref 313)⟩, ⟨PyData.keyHash P s296, (.str s296 709), (.ref 321)⟩, ⟨PyData.keyHash P s297, (.str s297 716), (.ref 328)⟩, ⟨PyData.keyHash P s298, (.str s298 724), (.ref 335)⟩, ⟨PyData.keyHash P s299, (.str s299 734), (.ref 342)⟩, ⟨PyData.keyHash P s300, (.str s300 742), (.ref 349)⟩, ⟨PyData.keyHash P s226, (.str s226 749), (.ref 356)⟩, ⟨PyData.keyHash P s210, (.str s210 752), (.ref 357)⟩]⟩ 34) }
noncomputable def q141 (P : Params) : Obj := { cls := (.type PySem.W.SL.s2766695959194262286x5), data := (.seq ⟨[]⟩ 0) }
noncomputable def q142 (P : Params) : Obj := { cls := .none, data := (.fields ⟨[(.int 50 0), (.int 4 0), (.ref 145), (.int 56 0), (.int 4 0), (.ref 152), (.int 60 0), (.int 4 0), (.ref 159), (.int 74 0), (.int 4 0), (.ref 166), (.int 77 0), (.int 4 0), (.ref 174), (.int 80 0), (.int 4 0), (.ref 181), (.int 84 0), (.int 4 0), (.ref 188), (.int 87 0), (.int 4 0), (.ref 195), (.int 91 0), (.int 4 0), (.ref 202), (.int 95 0), (.int 4 0), (.ref 209), (.int 99 0), (.int 4 0), (.ref 216), (.int 103 0), (.int 4 0), (.ref 223), (.int 106 0), (.int 4 0), (.ref 230), (.int 109 0), (.int 4 0), (.ref 237), (.int 112 0), (.int 4 0), (.ref 244), (.int 115 0), (.int 4 0), (.ref 251), (.int 118 0), (.int 4 0), (.ref 258), (.int 122 0), (.int 4 0), (.ref 266), (.int 139 0), (.int 4 0), (.ref 274), (.int 142 0), (.int 4 0), (.ref 282), (.int 156 0), (.int 4 0), (.ref 290), (.int 159 0), (.int 4 0), (.ref 297), (.int 173 0), (.int 4 0), (.ref 304), (.int 176 0), (.int 4 0), (.ref 312), (.int 183 0), (.int 4 0), (.ref 320), (.int 186 0), (.int 4 0), (.ref 327), (.int 189 0), (.int 4 0), (.ref 334), (.int 196 0), (.int 4 0), (.ref 341), (.int 212 0), (.int 4 0), (.ref 348), (.int 215 0), (.int 4 0), (.ref 355)]⟩) }
noncomputable def q143 (P : Params) : Obj := { cls := (.type PySem.W.SL.s5856160107412720595x4), data := (.fields ⟨[(.str s271 496), (.str s271 497), (.str s182 498), (.int 47 0), (.int 0 0), (.int 0 0), (.int 0 0), (.int 0 0), (.ref 135), (.bool false), (.int 318 0), (.ref 136), .none, .none, .none, .none, (.int 499 0), (.int 47 0), (.str s182 500)]⟩) }
noncomputable def q144 (P : Params) : Obj := { cls := (.type PySem.W.SL.s658472552662922059x5), slots := ⟨[some (.ref 137), some (.ref 3), some (.ref 134), none, some (.str s243 386), none, some (.ref 0)]⟩ }
noncomputable def q145 (P : Params) : Obj := { cls := (.type PySem.W.SL.s2766695959194262286x5), data := (.seq ⟨[.none]⟩ 0) }
noncomputable def q146 (P : Params) : Obj := { cls := (.type PySem.W.SL.s2766695959194262286x5), data := (.seq ⟨[]⟩ 0) }
noncomputable def q147 (P : Params) : Obj := { cls := .none, data := (.fields ⟨[]⟩) }
noncomputable def q148 (P : Params) : Obj := { cls := (.type PySem.W.SL.s2766695959194262286x5), data := (.seq ⟨[(.str s301 511), (.str s302 512)]⟩ 0) }
noncomputable def q149 (P : Params) : Obj := { cls := (.type PySem.W.SL.s2766695959194262286x5), data := (.seq ⟨[]⟩ 0) }
noncomputable def q150 (P : Params) : Obj := fnY (xC 14 1) s303
noncomputable def q151 (P : Params) : Obj := { cls := (.type PySem.W.SL.s5856160107412720595x4), data := (.fields ⟨[(.str s225 508), (.str s303 509), (.str s182 510), (.int 50 0), (.int 2 0), (.int 0 0), (.int 0 0), (.int 3 0), (.ref 140), (.bool true), (.int 318 0), (.ref 141), .none, (.ref 142), (.ref 143), (.ref 144), (.int 513 0), (.int 50 0), (.str s182 514)]⟩) }
noncomputable def q152 (P : Params) : Obj := fnX (xC 14 1) s303 (.ref 139) (.str s243 386) 145
noncomputable def q153 (P : Params) : Obj := { cls := (.type PySem.W.SL.s2766695959194262286x5), data := (.seq ⟨[]⟩ 0) }
noncomputable def q154 (P : Params) : Obj := { cls := .none, data := (.fields ⟨[]⟩) }
noncomputable def q155 (P : Params) : Obj := { cls := (.type PySem.W.SL.s2766695959194262286x5), data := (.seq ⟨[(.str s301 519)]⟩ 0) }
noncomputable def q156 (P : Params) : Obj := { cls := (.type PySem.W.SL.s2766695959194262286x5), data := (.seq ⟨[]⟩ 0) }
noncomputable def q157 (P : Params) : Obj := fnY (xC 14 2) s304
noncomputable def q158 (P : Params) : Obj := { cls := (.type PySem.W.SL.s5856160107412720595x4), data := (.fields ⟨[(.str s305 516), (.str s304 517), (.str s182 518), (.int 56 0), (.int 1 0), (.int 0 0), (.int 0 0), (.int 3 0), (.ref 147), (.bool true), (.int 318 0), (.ref 148), .none, (.ref 149), (.ref 150), (.ref 151), (.int 520 0), (.int 56 0), (.str s182 521)]⟩) }
noncomputable def q159 (P : Params) : Obj := fnX (xC 14 2) s304 .none (.str s243 386) 152
noncomputable def q160 (P : Params) : Obj := { cls := (.type PySem.W.SL.s2766695959194262286x5), data := (.seq ⟨[]⟩ 0) }
noncomputable def q161 (P : Params) : Obj := { cls := .none, data := (.fields ⟨[]⟩) }
noncomputable def q162 (P : Params) : Obj := { cls := (.type PySem.W.SL.s2766695959194262286x5), data := (.seq ⟨[(.str s301 526), (.str s306 527), (.str s307 528), (.str s308 529), (.str s309 530)]⟩ 0) }
noncomputable def q163 (P : Params) : Obj := { cls := (.type PySem.W.SL.s2766695959194262286x5), data := (.seq ⟨[]⟩ 0) }
noncomputable def q164 (P : Params) : Obj := fnY (xC 14 3) s310
noncomputable def q165 (P : Params) : Obj := { cls := (.type PySem.W.SL.s5856160107412720595x4), data := (.fields ⟨[(.str s311 523), (.str s310 524), (.str s182 525), (.int 60 0), (.int 2 0), (.int 0 0), (.int 0 0), (.int 3 0), (.ref 154), (.bool true), (.int 318 0), (.ref 155), .none, (.ref 156), (.ref 157), (.ref 158), (.int 531 0), (.int 60 0), (.str s182 532)]⟩) }
noncomputable def q166 (P : Params) : Obj := fnX (xC 14 3) s310 .none (.str s243 386) 159
noncomputable def q167 (P : Params) : Obj := { cls := (.type PySem.W.SL.s2766695959194262286x5), data := (.seq ⟨[]⟩ 0) }
noncomputable def q168 (P : Params) : Obj := { cls := .none, data := (.fields ⟨[]⟩) }
noncomputable def q169 (P : Params) : Obj := { cls := (.type PySem.W.SL.s2766695959194262286x5), data := (.seq ⟨[(.str s301 537)]⟩ 0) }
noncomputable def q170 (P : Params) : Obj := { cls := (.type PySem.W.SL.s2766695959194262286x5), data := (.seq ⟨[]⟩ 0) }
noncomputable def q171 (P : Params) : Obj := fnY (xC 14 4) s312
noncomputable def q172 (P : Params) : Obj := { cls := (.type PySem.W.SL.s5856160107412720595x4), data := (.fields ⟨[(.str s275 534), (.str s312 535), (.str s182 536), (.int 73 0), (.int 1 0), (.int 0 0), (.int 0 0), (.int 3 0), (.ref 161), (.bool true), (.int 318 0), (.ref 162), .none, (.ref 163), (.ref 164), (.ref 165), (.int 538 0), (.int 73 0), (.str s182 539)]⟩) }
noncomputable def q173 (P : Params) : Obj := fnX (xC 14 4) s312 .none (.str s243 386) 166
noncomputable def q174 (P : Params) : Obj := { cls := (.type PySem.W.SL.s8101838861749082086x8), data := (.fields ⟨[(.ref 167), .none, .none, .none, (.str s275 541), (.bool false)]⟩) }
noncomputable def q175 (P : Params) : Obj := { cls := (.type PySem.W.SL.s2766695959194262286x5), data := (.seq ⟨[]⟩ 0) }
noncomputable def q176 (P : Params) : Obj := { cls := .none, data := (.fields ⟨[]⟩) }
noncomputable def q177 (P : Params) : Obj := { cls := (.type PySem.W.SL.s2766695959194262286x5), data := (.seq ⟨[(.str s301 545)]⟩ 0) }
noncomputable def q178 (P : Params) : Obj := { cls := (.type PySem.W.SL.s2766695959194262286x5), data := (.seq ⟨[]⟩ 0) }
noncomputable def q179 (P : Params) : Obj := fnY (xC 14 5) s313
noncomputable def q180 (P : Params) : Obj := { cls := (.type PySem.W.SL.s5856160107412720595x4), data := (.fields ⟨[(.str s276 542), (.str s313 543), (.str s182 544), (.int 77 0), (.int 1 0), (.int 0 0), (.int 0 0), (.int 3 0), (.ref 169), (.bool true), (.int 318 0), (.ref 170), .none, (.ref 171), (.ref 172), (.ref 173), (.int 546 0), (.int 77 0), (.str s182 547)]⟩) }
noncomputable def q181 (P : Params) : Obj := fnX (xC 14 5) s313 .none (.str s243 386) 174
noncomputable def q182 (P : Params) : Obj := { cls := (.type PySem.W.SL.s2766695959194262286x5), data := (.seq ⟨[]⟩ 0) }
noncomputable def q183 (P : Params) : Obj := { cls := .none, data := (.fields ⟨[]⟩) }
noncomputable def q184 (P : Params) : Obj := { cls := (.type PySem.W.SL.s2766695959194262286x5), data := (.seq ⟨[(.str s301 552)]⟩ 0) }
noncomputable def q185 (P : Params) : Obj := { cls := (.type PySem.W.SL.s2766695959194262286x5), data := (.seq ⟨[]⟩ 0) }
noncomputable def q186 (P : Params) : Obj := fnY (xC 14 6) s314
noncomputable def q187 (P : Params) : Obj := { cls := (.type PySem.W.SL.s5856160107412720595x4), data := (.fields ⟨[(.str s277 549), (.str s314 550), (.str s182 551), (.int 80 0), (.int 1 0), (.int 0 0), (.int 0 0), (.int 3 0), (.ref 176), (.bool true), (.int 318 0), (.ref 177), .none, (.ref 178), (.ref 179), (.ref 180), (.int 553 0), (.int 80 0), (.str s182 554)]⟩) }
noncomputable def q188 (P : Params) : Obj := fnX (xC 14 6) s314 .none (.str s243 386) 181
noncomputable def q189 (P : Params) : Obj := { cls := (.type PySem.W.SL.s2766695959194262286x5), data := (.seq ⟨[]⟩ 0) }
noncomputable def q190 (P : Params) : Obj := { cls := .none, data := (.fields ⟨[]⟩) }
noncomputable def q191 (P : Params) : Obj := { cls := (.type PySem.W.SL.s2766695959194262286x5), data := (.seq ⟨[(.str s301 559), (.str s268 560)]⟩ 0) }
noncomputable def q192 (P : Params) : Obj := { cls := (.type PySem.W.SL.s2766695959194262286x5), data := (.seq ⟨[]⟩ 0) }
noncomputable def q193 (P : Params) : Obj := fnY (xC 14 7) s315
noncomputable def q194 (P : Params) : Obj := { cls := (.type PySem.W.SL.s5856160107412720595x4), data := (.fields ⟨[(.str s278 556), (.str s315 557), (.str s182 558), (.int 84 0), (.int 1 0), (.int 0 0), (.int 0 0), (.int 7 0), (.ref 183), (.bool true), (.int 318 0), (.ref 184), .none, (.ref 185), (.ref 186), (.ref 187), (.int 561 0), (.int 84 0), (.str s182 562)]⟩) }
noncomputable def q195 (P : Params) : Obj := fnX (xC 14 7) s315 .none (.str s243 386) 188
noncomputable def q196 (P : Params) : Obj := { cls := (.type PySem.W.SL.s2766695959194262286x5), data := (.seq ⟨[]⟩ 0) }
noncomputable def q197 (P : Params) : Obj := { cls := .none, data := (.fields ⟨[]⟩) }
noncomputable def q198 (P : Params) : Obj := { cls := (.type PySem.W.SL.s2766695959194262286x5), data := (.seq ⟨[(.str s301 567)]⟩ 0) }
noncomputable def q199 (P : Params) : Obj := { cls := (.type PySem.W.SL.s2766695959194262286x5), data := (.seq ⟨[]⟩ 0) }
noncomputable def q200 (P : Params) : Obj := fnY (xC 14 8) s316
noncomputable def q201 (P : Params) : Obj := { cls := (.type PySem.W.SL.s5856160107412720595x4), data := (.fields ⟨[(.str s279 564), (.str s316 565), (.str s182 566), (.int 87 0), (.int 1 0), (.int 0 0), (.int 0 0), (.int 3 0), (.ref 190), (.bool true), (.int 318 0), (.ref 191), .none, (.ref 192), (.ref 193), (.ref 194), (.int 568 0), (.int 87 0), (.str s182 569)]⟩) }
noncomputable def q202 (P : Params) : Obj := fnX (xC 14 8) s316 .none (.str s243 386) 195
noncomputable def q203 (P : Params) : Obj := { cls := (.type PySem.W.SL.s2766695959194262286x5), data := (.seq ⟨[]⟩ 0) }
noncomputable def q204 (P : Params) : Obj := { cls := .none, data := (.fields ⟨[]⟩) }
noncomputable def q205 (P : Params) : Obj := { cls := (.type PySem.W.SL.s2766695959194262286x5), data := (.seq ⟨[(.str s301 574)]⟩ 0) }
noncomputable def q206 (P : Params) : Obj := { cls := (.type PySem.W.SL.s2766695959194262286x5), data := (.seq ⟨[]⟩ 0) }
noncomputable def q207 (P : Params) : Obj := fnY (xC 14 9) s317
noncomputable def q208 (P : Params) : Obj := { cls := (.type PySem.W.SL.s5856160107412720595x4), data := (.fields ⟨[(.str s280 571), (.str s317 572), (.str s182 573), (.int 91 0), (.int 1 0), (.int 0 0), (.int 0 0), (.int 3 0), (.ref 197), (.bool true), (.int 318 0), (.ref 198), .none, (.ref 199), (.ref 200), (.ref 201), (.int 575 0), (.int 91 0), (.str s182 576)]⟩) }
noncomputable def q209 (P : Params) : Obj := fnX (xC 14 9) s317 .none (.str s243 386) 202
noncomputable def q210 (P : Params) : Obj := { cls := (.type PySem.W.SL.s2766695959194262286x5), data := (.seq ⟨[]⟩ 0) }
noncomputable def q211 (P : Params) : Obj := { cls := .none, data := (.fields ⟨[]⟩) }
noncomputable def q212 (P : Params) : Obj := { cls := (.type PySem.W.SL.s2766695959194262286x5), data := (.seq ⟨[(.str s301 581)]⟩ 0) }
noncomputable def q213 (P : Params) : Obj := { cls := (.type PySem.W.SL.s2766695959194262286x5), data := (.seq ⟨[]⟩ 0) }
noncomputable def q214 (P : Params) : Obj := fnY (xC 14 10) s318
noncomputable def q215 (P : Params) : Obj := { cls := (.type PySem.W.SL.s5856160107412720595x4), data := (.fields ⟨[(.str s281 578), (.str s318 579), (.str s182 580), (.int 95 0), (.int 1 0), (.int 0 0), (.int 0 0), (.int 3 0), (.ref 204), (.bool true), (.int 318 0), (.ref 205), .none, (.ref 206), (.ref 207), (.ref 208), (.int 582 0), (.int 95 0), (.str s182 583)]⟩) }
noncomputable def q216 (P : Params) : Obj := fnX (xC 14 10) s318 .none (.str s243 386) 209
noncomputable def q217 (P : Params) : Obj := { cls := (.type PySem.W.SL.s2766695959194262286x5), data := (.seq ⟨[]⟩ 0) }
noncomputable def q218 (P : Params) : Obj := { cls := .none, data := (.fields ⟨[]⟩) }
noncomputable def q219 (P : Params) : Obj := { cls := (.type PySem.W.SL.s2766695959194262286x5), data := (.seq ⟨[(.str s301 588)]⟩ 0) }
noncomputable def q220 (P : Params) : Obj := { cls := (.type PySem.W.SL.s2766695959194262286x5), data := (.seq ⟨[]⟩ 0) }
noncomputable def q221 (P : Params) : Obj := fnY (xC 14 11) s319
noncomputable def q222 (P : Params) : Obj := { cls := (.type PySem.W.SL.s5856160107412720595x4), data := (.fields ⟨[(.str s282 585), (.str s319 586), (.str s182 587), (.int 99 0), (.int 1 0), (.int 0 0), (.int 0 0), (.int 3 0), (.ref 211), (.bool true), (.int 318 0), (.ref 212), .none, (.ref 213), (.ref 214), (.ref 215), (.int 589 0), (.int 99 0), (.str s182 590)]⟩) }
noncomputable def q223 (P : Params) : Obj := fnX (xC 14 11) s319 .none (.str s243 386) 216
noncomputable def q224 (P : Params) : Obj := { cls := (.type PySem.W.SL.s2766695959194262286x5), data := (.seq ⟨[]⟩ 0) }
noncomputable def q225 (P : Params) : Obj := { cls := .none, data := (.fields ⟨[]⟩) }
noncomputable def q226 (P : Params) : Obj := { cls := (.type PySem.W.SL.s2766695959194262286x5), data := (.seq ⟨[(.str s301 595)]⟩ 0) }
noncomputable def q227 (P : Params) : Obj := { cls := (.type PySem.W.SL.s2766695959194262286x5), data := (.seq ⟨[]⟩ 0) }
noncomputable def q228 (P : Params) : Obj := fnY (xC 14 12) s320
noncomputable def q229 (P : Params) : Obj := { cls := (.type PySem.W.SL.s5856160107412720595x4), data := (.fields ⟨[(.str s283 592), (.str s320 593), (.str s182 594), (.int 103 0), (.int 1 0), (.int 0 0), (.int 0 0), (.int 3 0), (.ref 218), (.bool true), (.int 318 0), (.ref 219), .none, (.ref 220), (.ref 221), (.ref 222), (.int 596 0), (.int 103 0), (.str s182 597)]⟩) }
noncomputable def q230 (P : Params) : Obj := fnX (xC 14 12) s320 .none (.str s243 386) 223
noncomputable def q231 (P : Params) : Obj := { cls := (.type PySem.W.SL.s2766695959194262286x5), data := (.seq ⟨[]⟩ 0) }
noncomputable def q232 (P : Params) : Obj := { cls := .none, data := (.fields ⟨[]⟩) }
noncomputable def q233 (P : Params) : Obj := { cls := (.type PySem.W.SL.s2766695959194262286x5), data := (.seq ⟨[(.str s301 602)]⟩ 0) }
noncomputable def q234 (P : Params) : Obj := { cls := (.type PySem.W.SL.s2766695959194262286x5), data := (.seq ⟨[]⟩ 0) }
noncomputable def q235 (P : Params) : Obj := fnY (xC 14 13) s321
noncomputable def q236 (P : Params) : Obj := { cls := (.type PySem.W.SL.s5856160107412720595x4), data := (.fields ⟨[(.str s284 599), (.str s321 600), (.str s182 601), (.int 106 0), (.int 1 0), (.int 0 0), (.int 0 0), (.int 3 0), (.ref 225), (.bool true), (.int 318 0), (.ref 226), .none, (.ref 227), (.ref 228), (.ref 229), (.int 603 0), (.int 106 0), (.str s182 604)]⟩) }
noncomputable def q237 (P : Params) : Obj := fnX (xC 14 13) s321 .none (.str s243 386) 230
noncomputable def q238 (P : Params) : Obj := { cls := (.type PySem.W.SL.s2766695959194262286x5), data := (.seq ⟨[]⟩ 0) }
noncomputable def q239 (P : Params) : Obj := { cls := .none, data := (.fields ⟨[]⟩) }
noncomputable def q240 (P : Params) : Obj := { cls := (.type PySem.W.SL.s2766695959194262286x5), data := (.seq ⟨[(.str s301 609)]⟩ 0) }
noncomputable def q241 (P : Params) : Obj := { cls := (.type PySem.W.SL.s2766695959194262286x5), data := (.seq ⟨[]⟩ 0) }
noncomputable def q242 (P : Params) : Obj := fnY (xC 14 14) s322
noncomputable def q243 (P : Params) : Obj := { cls := (.type PySem.W.SL.s5856160107412720595x4), data := (.fields ⟨[(.str s285 606), (.str s322 607), (.str s182 608), (.int 109 0), (.int 1 0), (.int 0 0), (.int 0 0), (.int 3 0), (.ref 232), (.bool true), (.int 318 0), (.ref 233), .none, (.ref 234), (.ref 235), (.ref 236), (.int 610 0), (.int 109 0), (.str s182 611)]⟩) }
noncomputable def q244 (P : Params) : Obj := fnX (xC 14 14) s322 .none (.str s243 386) 237
noncomputable def q245 (P : Params) : Obj := { cls := (.type PySem.W.SL.s2766695959194262286x5), data := (.seq ⟨[]⟩ 0) }
noncomputable def q246 (P : Params) : Obj := { cls := .none, data := (.fields ⟨[]⟩) }
noncomputable def q247 (P : Params) : Obj := { cls := (.type PySem.W.SL.s2766695959194262286x5), data := (.seq ⟨[(.str s301 616)]⟩ 0) }
noncomputable def q248 (P : Params) : Obj := { cls := (.type PySem.W.SL.s2766695959194262286x5), data := (.seq ⟨[]⟩ 0) }
noncomputable def q249 (P : Params) : Obj := fnY (xC 14 15) s323
noncomputable def q250 (P : Params) : Obj := { cls := (.type PySem.W.SL.s5856160107412720595x4), data := (.fields ⟨[(.str s286 613), (.str s323 614), (.str s182 615), (.int 112 0), (.int 1 0), (.int 0 0), (.int 0 0), (.int 3 0), (.ref 239), (.bool true), (.int 318 0), (.ref 240), .none, (.ref 241), (.ref 242), (.ref 243), (.int 617 0), (.int 112 0), (.str s182 618)]⟩) }
noncomputable def q251 (P : Params) : Obj := fnX (xC 14 15) s323 .none (.str s243 386) 244
noncomputable def q252 (P : Params) : Obj := { cls := (.type PySem.W.SL.s2766695959194262286x5), data := (.seq ⟨[]⟩ 0) }
noncomputable def q253 (P : Params) : Obj := { cls := .none, data := (.fields ⟨[]⟩) }
noncomputable def q254 (P : Params) : Obj := { cls := (.type PySem.W.SL.s2766695959194262286x5), data := (.seq ⟨[(.str s301 623)]⟩ 0) }
noncomputable def q255 (P : Params) : Obj := { cls := (.type PySem.W.SL.s2766695959194262286x5), data := (.seq ⟨[]⟩ 0) }
noncomputable def q256 (P : Params) : Obj := fnY (xC 14 16) s324
noncomputable def q257 (P : Params) : Obj := { cls := (.type PySem.W.SL.s5856160107412720595x4), data := (.fields ⟨[(.str s287 620), (.str s324 621), (.str s182 622), (.int 115 0), (.int 1 0), (.int 0 0), (.int 0 0), (.int 3 0), (.ref 246), (.bool true), (.int 318 0), (.ref 247), .none, (.ref 248), (.ref 249), (.ref 250), (.int 624 0), (.int 115 0), (.str s182 625)]⟩) }
noncomputable def q258 (P : Params) : Obj := fnX (xC 14 16) s324 .none (.str s243 386) 251
noncomputable def q259 (P : Params) : Obj := { cls := (.type PySem.W.SL.s2766695959194262286x5), data := (.seq ⟨[]⟩ 0) }
noncomputable def q260 (P : Params) : Obj := { cls := .none, data := (.fields ⟨[]⟩) }
noncomputable def q261 (P : Params) : Obj := { cls := (.type PySem.W.SL.s2766695959194262286x5), data := (.seq ⟨[(.str s301 630)]⟩ 0) }
noncomputable def q262 (P : Params) : Obj := { cls := (.type PySem.W.SL.s2766695959194262286x5), data := (.seq ⟨[]⟩ 0) }
noncomputable def q263 (P : Params) : Obj := fnY (xC 14 17) s325
noncomputable def q264 (P : Params) : Obj := { cls := (.type PySem.W.SL.s5856160107412720595x4), data := (.fields ⟨[(.str s288 627), (.str s325 628), (.str s182 629), (.int 118 0), (.int 1 0), (.int 0 0), (.int 0 0), (.int 3 0), (.ref 253), (.bool true), (.int 318 0), (.ref 254), .none, (.ref 255), (.ref 256), (.ref 257), (.int 631 0), (.int 118 0), (.str s182 632)]⟩) }
noncomputable def q265 (P : Params) : Obj := fnX (xC 14 17) s325 .none (.str s243 386) 258
noncomputable def q266 (P : Params) : Obj := { cls := (.type PySem.W.SL.s2766695959194262286x5), data := (.seq ⟨[(.int 0 634)]⟩ 0) }
noncomputable def q267 (P : Params) : Obj := { cls := (.type PySem.W.SL.s2766695959194262286x5), data := (.seq ⟨[]⟩ 0) }
noncomputable def q268 (P : Params) : Obj := { cls := .none, data := (.fields ⟨[]⟩) }
noncomputable def q269 (P : Params) : Obj := { cls := (.type PySem.W.SL.s2766695959194262286x5), data := (.seq ⟨[(.str s301 638), (.str s326 639), (.str s327 640)]⟩ 0) }
noncomputable def q270 (P : Params) : Obj := { cls := (.type PySem.W.SL.s2766695959194262286x5), data := (.seq ⟨[]⟩ 0) }
noncomputable def q271 (P : Params) : Obj := fnY (xC 14 18) s328
noncomputable def q272 (P : Params) : Obj := { cls := (.type PySem.W.SL.s5856160107412720595x4), data := (.fields ⟨[(.str s289 635), (.str s328 636), (.str s182 637), (.int 122 0), (.int 3 0), (.int 3 0), (.int 0 0), (.int 3 0), (.ref 261), (.bool true), (.int 318 0), (.ref 262), .none, (.ref 263), (.ref 264), (.ref 265), (.int 641 0), (.int 122 0), (.str s182 642)]⟩) }
noncomputable def q273 (P : Params) : Obj := fnX (xC 14 18) s328 (.ref 260) (.str s243 386) 266
noncomputable def q274 (P : Params) : Obj := { cls := (.type PySem.W.SL.s2766695959194262286x5), data := (.seq ⟨[.none]⟩ 0) }
noncomputable def q275 (P : Params) : Obj := { cls := (.type PySem.W.SL.s2766695959194262286x5), data := (.seq ⟨[]⟩ 0) }
noncomputable def q276 (P : Params) : Obj := { cls := .none, data := (.fields ⟨[]⟩) }
noncomputable def q277 (P : Params) : Obj := { cls := (.type PySem.W.SL.s2766695959194262286x5), data := (.seq ⟨[(.str s301 647), (.str s329 648)]⟩ 0) }
noncomputable def q278 (P : Params) : Obj := { cls := (.type PySem.W.SL.s2766695959194262286x5), data := (.seq ⟨[]⟩ 0) }
noncomputable def q279 (P : Params) : Obj := fnY (xC 14 19) s330
noncomputable def q280 (P : Params) : Obj := { cls := (.type PySem.W.SL.s5856160107412720595x4), data := (.fields ⟨[(.str s290 644), (.str s330 645), (.str s182 646), (.int 139 0), (.int 2 0), (.int 2 0), (.int 0 0), (.int 3 0), (.ref 269), (.bool true), (.int 318 0), (.ref 270), .none, (.ref 271), (.ref 272), (.ref 273), (.int 649 0), (.int 139 0), (.str s182 650)]⟩) }
noncomputable def q281 (P : Params) : Obj := fnX (xC 14 19) s330 (.ref 268) (.str s243 386) 274
noncomputable def q282 (P : Params) : Obj := { cls := (.type PySem.W.SL.s2766695959194262286x5), data := (.seq ⟨[(.int (-1) 653)]⟩ 0) }
noncomputable def q283 (P : Params) : Obj := { cls := (.type PySem.W.SL.s2766695959194262286x5), data := (.seq ⟨[]⟩ 0) }
noncomputable def q284 (P : Params) : Obj := { cls := .none, data := (.fields ⟨[]⟩) }
noncomputable def q285 (P : Params) : Obj := { cls := (.type PySem.W.SL.s2766695959194262286x5), data := (.seq ⟨[(.str s301 657), (.str s329 658), (.str s307 659), (.str s308 660)]⟩ 0) }
noncomputable def q286 (P : Params) : Obj := { cls := (.type PySem.W.SL.s2766695959194262286x5), data := (.seq ⟨[]⟩ 0) }
noncomputable def q287 (P : Params) : Obj := fnY (xC 14 20) s331
noncomputable def q288 (P : Params) : Obj := { cls := (.type PySem.W.SL.s5856160107412720595x4), data := (.fields ⟨[(.str s291 654), (.str s331 655), (.str s182 656), (.int 142 0), (.int 2 0), (.int 2 0), (.int 0 0), (.int 3 0), (.ref 277), (.bool true), (.int 318 0), (.ref 278), .none, (.ref 279), (.ref 280), (.ref 281), (.int 661 0), (.int 142 0), (.str s182 662)]⟩) }
noncomputable def q289 (P : Params) : Obj := fnX (xC 14 20) s331 (.ref 276) (.str s243 386) 282
noncomputable def q290 (P : Params) : Obj := { cls := (.type PySem.W.SL.s2766695959194262286x5), data := (.seq ⟨[(.int (-1) 665)]⟩ 0) }
noncomputable def q291 (P : Params) : Obj := { cls := (.type PySem.W.SL.s2766695959194262286x5), data := (.seq ⟨[]⟩ 0) }
noncomputable def q292 (P : Params) : Obj := { cls := .none, data := (.fields ⟨[]⟩) }
noncomputable def q293 (P : Params) : Obj := { cls := (.type PySem.W.SL.s2766695959194262286x5), data := (.seq ⟨[(.str s301 669), (.str s329 670)]⟩ 0) }
noncomputable def q294 (P : Params) : Obj := { cls := (.type PySem.W.SL.s2766695959194262286x5), data := (.seq ⟨[]⟩ 0) }
noncomputable def q295 (P : Params) : Obj := fnY (xC 14 21) s332
noncomputable def q296 (P : Params) : Obj := { cls := (.type PySem.W.SL.s5856160107412720595x4), data := (.fields ⟨[(.str s292 666), (.str s332 667), (.str s182 668), (.int 156 0), (.int 2 0), (.int 2 0), (.int 0 0), (.int 3 0), (.ref 285), (.bool true), (.int 318 0), (.ref 286), .none, (.ref 287), (.ref 288), (.ref 289), (.int 671 0), (.int 156 0), (.str s182 672)]⟩) }
noncomputable def q297 (P : Params) : Obj := fnX (xC 14 21) s332 (.ref 284) (.str s243 386) 290
noncomputable def q298 (P : Params) : Obj := { cls := (.type PySem.W.SL.s2766695959194262286x5), data := (.seq ⟨[]⟩ 0) }
noncomputable def q299 (P : Params) : Obj := { cls := .none, data := (.fields ⟨[]⟩) }
noncomputable def q300 (P : Params) : Obj := { cls := (.type PySem.W.SL.s2766695959194262286x5), data := (.seq ⟨[(.str s301 677), (.str s333 678), (.str s307 679), (.str s263 680)]⟩ 0) }
noncomputable def q301 (P : Params) : Obj := { cls := (.type PySem.W.SL.s2766695959194262286x5), data := (.seq ⟨[]⟩ 0) }
noncomputable def q302 (P : Params) : Obj := fnY (xC 14 22) s334
noncomputable def q303 (P : Params) : Obj := { cls := (.type PySem.W.SL.s5856160107412720595x4), data := (.fields ⟨[(.str s293 674), (.str s334 675), (.str s182 676), (.int 159 0), (.int 2 0), (.int 2 0), (.int 0 0), (.int 3 0), (.ref 292), (.bool true), (.int 318 0), (.ref 293), .none, (.ref 294), (.ref 295), (.ref 296), (.int 681 0), (.int 159 0), (.str s182 682)]⟩) }
noncomputable def q304 (P : Params) : Obj := fnX (xC 14 22) s334 .none (.str s243 386) 297
noncomputable def q305 (P : Params) : Obj := { cls := (.type PySem.W.SL.s2766695959194262286x5), data := (.seq ⟨[]⟩ 0) }
noncomputable def q306 (P : Params) : Obj := { cls := .none, data := (.fields ⟨[]⟩) }
noncomputable def q307 (P : Params) : Obj := { cls := (.type PySem.W.SL.s2766695959194262286x5), data := (.seq ⟨[(.str s301 687), (.str s333 688)]⟩ 0) }
noncomputable def q308 (P : Params) : Obj := { cls := (.type PySem.W.SL.s2766695959194262286x5), data := (.seq ⟨[]⟩ 0) }
noncomputable def q309 (P : Params) : Obj := fnY (xC 14 23) s335
noncomputable def q310 (P : Params) : Obj := { cls := (.type PySem.W.SL.s5856160107412720595x4), data := (.fields ⟨[(.str s294 684), (.str s335 685), (.str s182 686), (.int 173 0), (.int 2 0), (.int 2 0), (.int 0 0), (.int 3 0), (.ref 299), (.bool true), (.int 318 0), (.ref 300), .none, (.ref 301), (.ref 302), (.ref 303), (.int 689 0), (.int 173 0), (.str s182 690)]⟩) }
noncomputable def q311 (P : Params) : Obj := fnX (xC 14 23) s335 .none (.str s243 386) 304
noncomputable def q312 (P : Params) : Obj := { cls := (.type PySem.W.SL.s2766695959194262286x5), data := (.seq ⟨[(.int (-1) 693)]⟩ 0) }
noncomputable def q313 (P : Params) : Obj := { cls := (.type PySem.W.SL.s2766695959194262286x5), data := (.seq ⟨[]⟩ 0) }
noncomputable def q314 (P : Params) : Obj := { cls := .none, data := (.fields ⟨[]⟩) }
noncomputable def q315 (P : Params) : Obj := { cls := (.type PySem.W.SL.s2766695959194262286x5), data := (.seq ⟨[(.str s301 697), (.str s329 698)]⟩ 0) }
noncomputable def q316 (P : Params) : Obj := { cls := (.type PySem.W.SL.s2766695959194262286x5), data := (.seq ⟨[]⟩ 0) }
noncomputable def q317 (P : Params) : Obj := fnY (xC 14 24) s336
noncomputable def q318 (P : Params) : Obj := { cls := (.type PySem.W.SL.s5856160107412720595x4), data := (.fields ⟨[(.str s295 694), (.str s336 695), (.str s182 696), (.int 176 0), (.int 2 0), (.int 2 0), (.int 0 0), (.int 3 0), (.ref 307), (.bool true), (.int 318 0), (.ref 308), .none, (.ref 309), (.ref 310), (.ref 311), (.int 699 0), (.int 176 0), (.str s182 700)]⟩) }
noncomputable def q319 (P : Params) : Obj := fnX (xC 14 24) s336 (.ref 306) (.str s243 386) 312
noncomputable def q320 (P : Params) : Obj := { cls := (.type PySem.W.SL.s2766695959194262286x5), data := (.seq ⟨[.none]⟩ 0) }
noncomputable def q321 (P : Params) : Obj := { cls := (.type PySem.W.SL.s2766695959194262286x5), data := (.seq ⟨[]⟩ 0) }
noncomputable def q322 (P : Params) : Obj := { cls := .none, data := (.fields ⟨[]⟩) }
noncomputable def q323 (P : Params) : Obj := { cls := (.type PySem.W.SL.s2766695959194262286x5), data := (.seq ⟨[(.str s301 705), (.str s329 706)]⟩ 0) }
noncomputable def q324 (P : Params) : Obj := { cls := (.type PySem.W.SL.s2766695959194262286x5), data := (.seq ⟨[]⟩ 0) }
noncomputable def q325 (P : Params) : Obj := fnY (xC 14 25) s337
noncomputable def q326 (P : Params) : Obj := { cls := (.type PySem.W.SL.s5856160107412720595x4), data := (.fields ⟨[(.str s296 702), (.str s337 703), (.str s182 704), (.int 183 0), (.int 2 0), (.int 2 0), (.int 0 0), (.int 3 0), (.ref 315), (.bool true), (.int 318 0), (.ref 316), .none, (.ref 317), (.ref 318), (.ref 319), (.int 707 0), (.int 183 0), (.str s182 708)]⟩) }
noncomputable def q327 (P : Params) : Obj := fnX (xC 14 25) s337 (.ref 314) (.str s243 386) 320
noncomputable def q328 (P : Params) : Obj := { cls := (.type PySem.W.SL.s2766695959194262286x5), data := (.seq ⟨[]⟩ 0) }
noncomputable def q329 (P : Params) : Obj := { cls := .none, data := (.fields ⟨[]⟩) }
noncomputable def q330 (P : Params) : Obj := { cls := (.type PySem.W.SL.s2766695959194262286x5), data := (.seq ⟨[(.str s301 713)]⟩ 0) }
noncomputable def q331 (P : Params) : Obj := { cls := (.type PySem.W.SL.s2766695959194262286x5), data := (.seq ⟨[]⟩ 0) }
noncomputable def q332 (P : Params) : Obj := fnY (xC 14 26) s338
noncomputable def q333 (P : Params) : Obj := { cls := (.type PySem.W.SL.s5856160107412720595x4), data := (.fields ⟨[(.str s297 710), (.str s338 711), (.str s182 712), (.int 186 0), (.int 1 0), (.int 0 0), (.int 0 0), (.int 3 0), (.ref 322), (.bool true), (.int 318 0), (.ref 323), .none, (.ref 324), (.ref 325), (.ref 326), (.int 714 0), (.int 186 0), (.str s182 715)]⟩) }
noncomputable def q334 (P : Params) : Obj := fnX (xC 14 26) s338 .none (.str s243 386) 327
noncomputable def q335 (P : Params) : Obj := { cls := (.type PySem.W.SL.s2766695959194262286x5), data := (.seq ⟨[]⟩ 0) }
noncomputable def q336 (P : Params) : Obj := { cls := .none, data := (.fields ⟨[]⟩) }
noncomputable def q337 (P : Params) : Obj := { cls := (.type PySem.W.SL.s2766695959194262286x5), data := (.seq ⟨[(.str s301 720), (.str s339 721)]⟩ 0) }
noncomputable def q338 (P : Params) : Obj := { cls := (.type PySem.W.SL.s2766695959194262286x5), data := (.seq ⟨[]⟩ 0) }
noncomputable def q339 (P : Params) : Obj := fnY (xC 14 27) s340
noncomputable def q340 (P : Params) : Obj := { cls := (.type PySem.W.SL.s5856160107412720595x4), data := (.fields ⟨[(.str s298 717), (.str s340 718), (.str s182 719), (.int 189 0), (.int 1 0), (.int 0 0), (.int 0 0), (.int 3 0), (.ref 329), (.bool true), (.int 318 0), (.ref 330), .none, (.ref 331), (.ref 332), (.ref 333), (.int 722 0), (.int 189 0), (.str s182 723)]⟩) }
noncomputable def q341 (P : Params) : Obj := fnX (xC 14 27) s340 .none (.str s243 386) 334
noncomputable def q342 (P : Params) : Obj := { cls := (.type PySem.W.SL.s2766695959194262286x5), data := (.seq ⟨[]⟩ 0) }
noncomputable def q343 (P : Params) : Obj := { cls := .none, data := (.fields ⟨[]⟩) }
noncomputable def q344 (P : Params) : Obj := { cls := (.type PySem.W.SL.s2766695959194262286x5), data := (.seq ⟨[(.str s301 728), (.str s341 729), (.str s263 730), (.str s307 731)]⟩ 0) }
noncomputable def q345 (P : Params) : Obj := { cls := (.type PySem.W.SL.s2766695959194262286x5), data := (.seq ⟨[]⟩ 0) }
noncomputable def q346 (P : Params) : Obj := fnY (xC 14 28) s342
noncomputable def q347 (P : Params) : Obj := { cls := (.type PySem.W.SL.s5856160107412720595x4), data := (.fields ⟨[(.str s299 725), (.str s342 726), (.str s182 727), (.int 196 0), (.int 2 0), (.int 2 0), (.int 0 0), (.int 3 0), (.ref 336), (.bool true), (.int 318 0), (.ref 337), .none, (.ref 338), (.ref 339), (.ref 340), (.int 732 0), (.int 196 0), (.str s182 733)]⟩) }
noncomputable def q348 (P : Params) : Obj := fnX (xC 14 28) s342 .none (.str s243 386) 341
noncomputable def q349 (P : Params) : Obj := { cls := (.type PySem.W.SL.s2766695959194262286x5), data := (.seq ⟨[]⟩ 0) }
noncomputable def q350 (P : Params) : Obj := { cls := .none, data := (.fields ⟨[]⟩) }
noncomputable def q351 (P : Params) : Obj := { cls := (.type PySem.W.SL.s2766695959194262286x5), data := (.seq ⟨[(.str s301 738), (.str s343 739)]⟩ 0) }
noncomputable def q352 (P : Params) : Obj := { cls := (.type PySem.W.SL.s2766695959194262286x5), data := (.seq ⟨[]⟩ 0) }
noncomputable def q353 (P : Params) : Obj := fnY (xC 14 29) s344
noncomputable def q354 (P : Params) : Obj := { cls := (.type PySem.W.SL.s5856160107412720595x4), data := (.fields ⟨[(.str s300 735), (.str s344 736), (.str s182 737), (.int 212 0), (.int 2 0), (.int 2 0), (.int 0 0), (.int 3 0), (.ref 343), (.bool true), (.int 318 0), (.ref 344), .none, (.ref 345), (.ref 346), (.ref 347), (.int 740 0), (.int 212 0), (.str s182 741)]⟩) }
noncomputable def q355 (P : Params) : Obj := fnX (xC 14 29) s344 .none (.str s243 386) 348
noncomputable def q356 (P : Params) : Obj := { cls := (.type PySem.W.SL.s2766695959194262286x5), data := (.seq ⟨[]⟩ 0) }
noncomputable def q357 (P : Params) : Obj := { cls := .none, data := (.fields ⟨[]⟩) }
noncomputable def q358 (P : Params) : Obj := { cls := (.type PySem.W.SL.s2766695959194262286x5), data := (.seq ⟨[(.str s301 746)]⟩ 0) }
noncomputable def q359 (P : Params) : Obj := { cls := (.type PySem.W.SL.s2766695959194262286x5), data := (.seq ⟨[]⟩ 0) }
noncomputable def q360 (P : Params) : Obj := fnY (xC 14 30) s345
noncomputable def q361 (P : Params) : Obj := { cls := (.type PySem.W.SL.s5856160107412720595x4), data := (.fields ⟨[(.str s226 743), (.str s345 744), (.str s182 745), (.int 215 0), (.int 1 0), (.int 0 0), (.int 0 0), (.int 3 0), (.ref 350), (.bool true), (.int 318 0), (.ref 351), .none, (.ref 352), (.ref 353), (.ref 354), (.int 747 0), (.int 215 0), (.str s182 748)]⟩) }
noncomputable def q362 (P : Params) : Obj := fnX (xC 14 30) s345 .none (.str s243 386) 355
noncomputable def q363 (P : Params) : Obj := { cls := (.type PySem.W.SL.s2766695959194262286x5), data := (.seq ⟨[(.str s346 750), (.str s347 751)]⟩ 0) }
noncomputable def q364 (P : Params) : Obj := { cls := (.type PySem.W.SL.s14018661285674007319x4), data := (.dict ⟨[⟨PyData.keyHash P s198, (.str s198 501), (.str s272 506)⟩, ⟨PyData.keyHash P s200, (.str s200 505), (.int 47 504)⟩, ⟨PyData.keyHash P s225, (.str s225 515), (.ref 146)⟩, ⟨PyData.keyHash P s273, (.str s273 522), (.ref 153)⟩, ⟨PyData.keyHash P s274, (.str s274 533), (.ref 160)⟩, ⟨PyData.keyHash P s275, (.str s275 541), (.ref 168)⟩, ⟨PyData.keyHash P s276, (.str s276 548), (.ref 175)⟩, ⟨PyData.keyHash P s277, (.str s277 555), (.ref 182)⟩, ⟨PyData.keyHash P s278, (.str s278 563), (.ref 189)⟩, ⟨PyData.keyHash P s279, (.str s279 570), (.ref 196)⟩, ⟨PyData.keyHash P s280, (.str s280 577), (.ref 203)⟩, ⟨PyData.keyHash P s281, (.str s281 584), (.ref 210)⟩, ⟨PyData.keyHash P s282, (.str s282 591), (.ref 217)⟩, ⟨PyData.keyHash P s283, (.str s283 598), (.ref 224)⟩, ⟨PyData.keyHash P s284, (.str s284 605), (.ref 231)⟩, ⟨PyData.keyHash P s285, (.str s285 612), (.ref 238)⟩, ⟨PyData.keyHash P s286, (.str s286 619), (.ref 245)⟩, ⟨PyData.keyHash P s287, (.str s287 626), (.ref 252)⟩, ⟨PyData.keyHash P s288, (.str s288 633), (.ref 259)⟩, ⟨PyData.keyHash P s289, (.str s289 643), (.ref 267)⟩, ⟨PyData.keyHash P s290, (.str s290 651), (.ref 275)⟩, ⟨PyData.keyHash P s291, (.str s291 663), (.ref 283)⟩, ⟨PyData.keyHash P s292, (.str s292 673), (.ref 291)⟩, ⟨PyData.keyHash P s293, (.str s293 683), (.ref 298)⟩, ⟨PyData.keyHash P s294, (.str s294 691), (.ref 305)⟩, ⟨PyData.keyHash P s295, (.str s295 701), (.ref 313)⟩, ⟨PyData.keyHash P s296, (.str s296 709), (.ref 321)⟩, ⟨PyData.keyHash P s297, (.str s297 716), (.ref 328)⟩, ⟨PyData.keyHash P s298, (.str s298 724), (.ref 335)⟩, ⟨PyData.keyHash P s299, (.str s299 734), (.ref 342)⟩, ⟨PyData.keyHash P s300, (.str s300 742), (.ref 349)⟩, ⟨PyData.keyHash P s226, (.str s226 749), (.ref 356)⟩, ⟨PyData.keyHash P s210, (.str s210 752), (.ref 357)⟩, ⟨PyData.keyHash P s2, (.str s2 753), .none⟩]⟩ 2) }
noncomputable def q365 (P : Params) : Obj := { cls := (.type PySem.W.SL.s17162191345867700912x4), data := (.cls { name := s271, bases := [(.ref 117)], mro := [(.ref 359), (.ref 117), (.ref 102), (.type PySem.W.SL.s2742458400755230247x6)], ns := 358, qualname := s271, hasDict := true, slotNames := [], subclasses := [], abstract := false, collection := none, hasDel := false }), slots := ⟨[some (.ref 132), none, some (.str s271 494), some (.str s271 502), some .none, some (.bool true)]⟩ }
noncomputable def q366 (P : Params) : Obj := { cls := (.type PySem.W.SL.s4290257624100764138x5), data := (.fields ⟨[(.ref 359), (.ref 359), (.ref 359)]⟩) }
noncomputable def q367 (P : Params) : Obj := { cls := (.type PySem.W.SL.s11030030927630378310x26), data := (.fields ⟨[(.builtin PySem.W.SL.s4860613602091757760x24), (.ref 359)]⟩) }
noncomputable def T2 (P : Params) : BT := (.node (q0 P) (.node (q1 P) (.node (q135 P) (.node (q7 P) (.node (q15 P) (.node (q31 P) (.node (q66 P) (.node (q130 P) (.node (q261 P) .nil .nil) .nil) (.node (q197 P) (.node (q325 P) .nil .nil) .nil)) (.node (q98 P) (.node (q165 P) (.node (q293 P) .nil .nil) .nil) (.node (q229 P) (.node (q357 P) .nil .nil) .nil))) (.node (q50 P) (.node (q82 P) (.node (q149 P) (.node (q277 P) .nil .nil) .nil) (.node (q213 P) (.node (q341 P) .nil .nil) .nil)) (.node (q114 P) (.node (q181 P) (.node (q309 P) .nil .nil) .nil) (.node (q245 P) .nil .nil)))) (.node (q23 P) (.node (q42 P) (.node (q74 P) (.node (q141 P) (.node (q269 P) .nil .nil) .nil) (.node (q205 P) (.node (q333 P) .nil .nil) .nil)) (.node (q106 P) (.node (q173 P) (.node (q301 P) .nil .nil) .nil) (.node (q237 P) (.node (q365 P) .nil .nil) .nil))) (.node (q58 P) (.node (q90 P) (.node (q157 P) (.node (q285 P) .nil .nil) .nil) (.node (q221 P) (.node (q349 P) .nil .nil) .nil)) (.node (q122 P) (.node (q189 P) (.node (q317 P) .nil .nil) .nil) (.node (q253 P) .nil .nil))))) (.node (q11 P) (.node (q19 P) (.node (q136 P) (.node (q70 P) (.node (q134 P) (.node (q265 P) .nil .nil) .nil) (.node (q201 P) (.node (q329 P) .nil .nil) .nil)) (.node (q102 P) (.node (q169 P) (.node (q297 P) .nil .nil) .nil) (.node (q233 P) (.node (q361 P) .nil .nil) .nil))) (.node (q54 P) (.node (q86 P) (.node (q153 P) (.node (q281 P) .nil .nil) .nil) (.node (q217 P) (.node (q345 P) .nil .nil) .nil)) (.node (q118 P) (.node (q185 P) (.node (q313 P) .nil .nil) .nil) (.node (q249 P) .nil .nil)))) (.node (q27 P) (.node (q46 P) (.node (q78 P) (.node (q145 P) (.node (q273 P) .nil .nil) .nil) (.node (q209 P) (.node (q337 P) .nil .nil) .nil)) (.node (q110 P) (.node (q177 P) (.node (q305 P) .nil .nil) .nil) (.node (q241 P) .nil .nil))) (.node (q62 P) (.node (q94 P) (.node (q161 P) (.node (q289 P) .nil .nil) .nil) (.node (q225 P) (.node (q353 P) .nil .nil) .nil)) (.node (q126 P) (.node (q193 P) (.node (q321 P) .nil .nil) .nil) (.node (q257 P) .nil .nil)))))) (.node (q5 P) (.node (q9 P) (.node (q17 P) (.node (q33 P) (.node (q68 P) (.node (q132 P) (.node (q263 P) .nil .nil) .nil) (.node (q199 P) (.node (q327 P) .nil .nil) .nil)) (.node (q100 P) (.node (q167 P) (.node (q295 P) .nil .nil) .nil) (.node (q231 P) (.node (q359 P) .nil .nil) .nil))) (.node (q52 P) (.node (q84 P) (.node (q151 P) (.node (q279 P) .nil .nil) .nil) (.node (q215 P) (.node (q343 P) .nil .nil) .nil)) (.node (q116 P) (.node (q183 P) (.node (q311 P) .nil .nil) .nil) (.node (q247 P) .nil .nil)))) (.node (q25 P) (.node (q44 P) (.node (q76 P) (.node (q143 P) (.node (q271 P) .nil .nil) .nil) (.node (q207 P) (.node (q335 P) .nil .nil) .nil)) (.node (q108 P) (.node (q175 P) (.node (q303 P) .nil .nil) .nil) (.node (q239 P) (.node (q367 P) .nil .nil) .nil))) (.node (q60 P) (.node (q92 P) (.node (q159 P) (.node (q287 P) .nil .nil) .nil) (.node (q223 P) (.node (q351 P) .nil .nil) .nil)) (.node (q124 P) (.node (q191 P) (.node (q319 P) .nil .nil) .nil) (.node (q255 P) .nil .nil))))) (.node (q13 P) (.node (q21 P) (.node (q37 P) (.node (q72 P) (.node (q139 P) (.node (q267 P) .nil .nil) .nil) (.node (q203 P) (.node (q331 P) .nil .nil) .nil)) (.node (q104 P) (.node (q171 P) (.node (q299 P) .nil .nil) .nil) (.node (q235 P) (.node (q363 P) .nil .nil) .nil))) (.node (q56 P) (.node (q88 P) (.node (q155 P) (.node (q283 P) .nil .nil) .nil) (.node (q219 P) (.node (q347 P) .nil .nil) .nil)) (.node (q137 P) (.node (q187 P) (.node (q315 P) .nil .nil) .nil) (.node (q251 P) .nil .nil)))) (.node (q29 P) (.node (q48 P) (.node (q80 P) (.node (q147 P) (.node (q275 P) .nil .nil) .nil) (.node (q211 P) (.node (q339 P) .nil .nil) .nil)) (.node (q112 P) (.node (q179 P) (.node (q307 P) .nil .nil) .nil) (.node (q243 P) .nil .nil))) (.node (q64 P) (.node (q96 P) (.node (q163 P) (.node (q291 P) .nil .nil) .nil) (.node (q227 P) (.node (q355 P) .nil .nil) .nil)) (.node (q128 P) (.node (q195 P) (.node (q323 P) .nil .nil) .nil) (.node (q259 P) .nil .nil))))))) (.node (q38 P) (.node (q4 P) (.node (q8 P) (.node (q16 P) (.node (q32 P) (.node (q67 P) (.node (q131 P) (.node (q262 P) .nil .nil) .nil) (.node (q198 P) (.node (q326 P) .nil .nil) .nil)) (.node (q99 P) (.node (q166 P) (.node (q294 P) .nil .nil) .nil) (.node (q230 P) (.node (q358 P) .nil .nil) .nil))) (.node (q51 P) (.node (q83 P) (.node (q150 P) (.node (q278 P) .nil .nil) .nil) (.node (q214 P) (.node (q342 P) .nil .nil) .nil)) (.node (q115 P) (.node (q182 P) (.node (q310 P) .nil .nil) .nil) (.node (q246 P) .nil .nil)))) (.node (q24 P) (.node (q43 P) (.node (q75 P) (.node (q142 P) (.node (q270 P) .nil .nil) .nil) (.node (q206 P) (.node (q334 P) .nil .nil) .nil)) (.node (q107 P) (.node (q174 P) (.node (q302 P) .nil .nil) .nil) (.node (q238 P) (.node (q366 P) .nil .nil) .nil))) (.node (q59 P) (.node (q91 P) (.node (q158 P) (.node (q286 P) .nil .nil) .nil) (.node (q222 P) (.node (q350 P) .nil .nil) .nil)) (.node (q123 P) (.node (q190 P) (.node (q318 P) .nil .nil) .nil) (.node (q254 P) .nil .nil))))) (.node (q12 P) (.node (q20 P) (.node (q36 P) (.node (q71 P) (.node (q138 P) (.node (q266 P) .nil .nil) .nil) (.node (q202 P) (.node (q330 P) .nil .nil) .nil)) (.node (q103 P) (.node (q170 P) (.node (q298 P) .nil .nil) .nil) (.node (q234 P) (.node (q362 P) .nil .nil) .nil))) (.node (q55 P) (.node (q87 P) (.node (q154 P) (.node (q282 P) .nil .nil) .nil) (.node (q218 P) (.node (q346 P) .nil .nil) .nil)) (.node (q119 P) (.node (q186 P) (.node (q314 P) .nil .nil) .nil) (.node (q250 P) .nil .nil)))) (.node (q28 P) (.node (q47 P) (.node (q79 P) (.node (q146 P) (.node (q274 P) .nil .nil) .nil) (.node (q210 P) (.node (q338 P) .nil .nil) .nil)) (.node (q111 P) (.node (q178 P) (.node (q306 P) .nil .nil) .nil) (.node (q242 P) .nil .nil))) (.node (q63 P) (.node (q95 P) (.node (q162 P) (.node (q290 P) .nil .nil) .nil) (.node (q226 P) (.node (q354 P) .nil .nil) .nil)) (.node (q127 P) (.node (q194 P) (.node (q322 P) .nil .nil) .nil) (.node (q258 P) .nil .nil)))))) (.node (q6 P) (.node (q10 P) (.node (q18 P) (.node (q34 P) (.node (q69 P) (.node (q133 P) (.node (q264 P) .nil .nil) .nil) (.node (q200 P) (.node (q328 P) .nil .nil) .nil)) (.node (q101 P) (.node (q168 P) (.node (q296 P) .nil .nil) .nil) (.node (q232 P) (.node (q360 P) .nil .nil) .nil))) (.node (q53 P) (.node (q85 P) (.node (q152 P) (.node (q280 P) .nil .nil) .nil) (.node (q216 P) (.node (q344 P) .nil .nil) .nil)) (.node (q117 P) (.node (q184 P) (.node (q312 P) .nil .nil) .nil) (.node (q248 P) .nil .nil)))) (.node (q26 P) (.node (q45 P) (.node (q77 P) (.node (q144 P) (.node (q272 P) .nil .nil) .nil) (.node (q208 P) (.node (q336 P) .nil .nil) .nil)) (.node (q109 P) (.node (q176 P) (.node (q304 P) .nil .nil) .nil) (.node (q240 P) .nil .nil))) (.node (q61 P) (.node (q93 P) (.node (q160 P) (.node (q288 P) .nil .nil) .nil) (.node (q224 P) (.node (q352 P) .nil .nil) .nil)) (.node (q125 P) (.node (q192 P) (.node (q320 P) .nil .nil) .nil) (.node (q256 P) .nil .nil))))) (.node (q14 P) (.node (q22 P) (.node (q41 P) (.node (q73 P) (.node (q140 P) (.node (q268 P) .nil .nil) .nil) (.node (q204 P) (.node (q332 P) .nil .nil) .nil)) (.node (q105 P) (.node (q172 P) (.node (q300 P) .nil .nil) .nil) (.node (q236 P) (.node (q364 P) .nil .nil) .nil))) (.node (q57 P) (.node (q89 P) (.node (q156 P) (.node (q284 P) .nil .nil) .nil) (.node (q220 P) (.node (q348 P) .nil .nil) .nil)) (.node (q121 P) (.node (q188 P) (.node (q316 P) .nil .nil) .nil) (.node (q252 P) .nil .nil)))) (.node (q30 P) (.node (q49 P) (.node (q81 P) (.node (q148 P) (.node (q276 P) .nil .nil) .nil) (.node (q212 P) (.node (q340 P) .nil .nil) .nil)) (.node (q113 P) (.node (q180 P) (.node (q308 P) .nil .nil) .nil) (.node (q244 P) .nil .nil))) (.node (q65 P) (.node (q97 P) (.node (q164 P) (.node (q292 P) .nil .nil) .nil) (.node (q228 P) (.node (q356 P) .nil .nil) .nil)) (.node (q129 P) (.node (q196 P) (.node (q324 P) .nil .nil) .nil) (.node (q260 P) .nil .nil))))))))
noncomputable def q368 (P : Params) : Obj := { cls := (.type PySem.W.SL.s14018661285674007319x4), data := (.dict ⟨[⟨PyData.keyHash P s0, (.str s0 165), (.str s243 386)⟩, ⟨PyData.keyHash P s2, (.str s2 166), .none⟩, ⟨PyData.keyHash P s3, (.str s3 167), .none⟩, ⟨PyData.keyHash P s4, (.str s4 168), (.builtin PySem.W.SL.s7097527257260152453x26)⟩, ⟨PyData.keyHash P s5, (.str s5 169), .none⟩, ⟨PyData.keyHash P s179, (.str s179 170), (.ref 6)⟩, ⟨PyData.keyHash P s180, (.str s180 171), (.ref 4)⟩, ⟨PyData.keyHash P s181, (.str s181 173), (.str s182 172)⟩, ⟨PyData.keyHash P s183, (.str s183 174), .none⟩, ⟨PyData.keyHash P s161, (.str s161 275), (.ref 12)⟩, ⟨PyData.keyHash P s184, (.str s184 317), (.type PySem.W.SL.s5314052453082223887x17)⟩, ⟨PyData.keyHash P s244, (.str s244 330), (.ref 44)⟩, ⟨PyData.keyHash P s245, (.str s245 333), (.ref 45)⟩, ⟨PyData.keyHash P s246, (.str s246 345), (.ref 53)⟩, ⟨PyData.keyHash P s247, (.str s247 385), (.ref 58)⟩, ⟨PyData.keyHash P s248, (.str s248 395), (.ref 65)⟩, ⟨PyData.keyHash P s249, (.str s249 403), (.ref 72)⟩, ⟨PyData.keyHash P s250, (.str s250 425), (.ref 82)⟩, ⟨PyData.keyHash P s251, (.str s251 457), (.ref 102)⟩, ⟨PyData.keyHash P s252, (.str s252 475), (.ref 117)⟩, ⟨PyData.keyHash P s253, (.str s253 493), (.ref 129)⟩, ⟨PyData.keyHash P s271, (.str s271 755), (.ref 359)⟩, ⟨PyData.keyHash P s348, (.str s348 1042), (.ref 606)⟩]⟩ 23) }
noncomputable def q369 (P : Params) : Obj := { cls := .none, data := (.fields ⟨[(.int 3 0), (.int 0 0), (.ref 43), (.int 8 0), (.int 0 0), (.ref 52), (.int 22 0), (.int 0 0), (.ref 64), (.int 27 0), (.int 0 0), (.ref 71), (.int 34 0), (.int 0 0), (.ref 78), (.int 36 0), (.int 0 0), (.ref 91), (.int 43 0), (.int 0 0), (.ref 113), (.int 45 0), (.int 0 0), (.ref 125), (.int 47 0), (.int 0 0), (.ref 137), (.int 217 0), (.int 0 0), (.ref 367)]⟩) }
noncomputable def q370 (P : Params) : Obj := { cls := (.type PySem.W.SL.s17162191345867700912x4), data := (.cls { name := s253, bases := [(.ref 102)], mro := [(.ref 129), (.ref 102), (.type PySem.W.SL.s2742458400755230247x6)], ns := 128, qualname := s253, hasDict := true, slotNames := [], subclasses := [(.ref 606)], abstract := false, collection := none, hasDel := false }), slots := ⟨[some (.ref 120), none, some (.str s253 476), some (.str s253 484), some .none, some (.bool true)]⟩ }
noncomputable def q371 (P : Params) : Obj := { cls := (.type PySem.W.SL.s2766695959194262286x5), data := (.seq ⟨[(.ref 129)]⟩ 0) }
noncomputable def q372 (P : Params) : Obj := { cls := (.type PySem.W.SL.s11030030927630378310x26), data := (.fields ⟨[(.builtin PySem.W.SL.s10062305145149207511x16), (.type PySem.W.SL.s17162191345867700912x4)]⟩) }
noncomputable def q373 (P : Params) : Obj := { cls := (.type PySem.W.SL.s14018661285674007319x4), data := (.dict ⟨[⟨PyData.keyHash P s198, (.str s198 763), (.str s272 768)⟩, ⟨PyData.keyHash P s265, (.str s265 765), (.str s348 764)⟩, ⟨PyData.keyHash P s200, (.str s200 767), (.int 217 766)⟩, ⟨PyData.keyHash P s225, (.str s225 780), (.ref 376)⟩, ⟨PyData.keyHash P s349, (.str s349 789), (.ref 383)⟩, ⟨PyData.keyHash P s350, (.str s350 796), (.ref 390)⟩, ⟨PyData.keyHash P s351, (.str s351 803), (.ref 397)⟩, ⟨PyData.keyHash P s352, (.str s352 818), (.ref 404)⟩, ⟨PyData.keyHash P s275, (.str s275 826), (.ref 412)⟩, ⟨PyData.keyHash P s353, (.str s353 834), (.ref 420)⟩, ⟨PyData.keyHash P s354, (.str s354 842), (.ref 428)⟩, ⟨PyData.keyHash P s355, (.str s355 850), (.ref 436)⟩, ⟨PyData.keyHash P s356, (.str s356 858), (.ref 444)⟩, ⟨PyData.keyHash P s276, (.str s276 865), (.ref 451)⟩, ⟨PyData.keyHash P s277, (.str s277 872), (.ref 458)⟩, ⟨PyData.keyHash P s278, (.str s278 880), (.ref 465)⟩, ⟨PyData.keyHash P s279, (.str s279 887), (.ref 472)⟩, ⟨PyData.keyHash P s280, (.str s280 894), (.ref 479)⟩, ⟨PyData.keyHash P s281, (.str s281 901), (.ref 486)⟩, ⟨PyData.keyHash P s282, (.str s282 908), (.ref 493)⟩, ⟨PyData.keyHash P s283, (.str s283 915), (.ref 500)⟩, ⟨PyData.keyHash P s284, (.str s284 922), (.ref 507)⟩, ⟨PyData.keyHash P s285, (.str s285 929), (.ref 514)⟩, ⟨PyData.keyHash P s286, (.str s286 936), (.ref 521)⟩, ⟨PyData.keyHash P s288, (.str s288 943), (.ref 528)⟩, ⟨PyData.keyHash P s289, (.str s289 953), (.ref 536)⟩, ⟨PyData.keyHash P s290, (.str s290 961), (.ref 544)⟩, ⟨PyData.keyHash P s291, (.str s291 973), (.ref 552)⟩, ⟨PyData.keyHash P s295, (.str s295 983), (.ref 560)⟩, ⟨PyData.keyHash P s296, (.str s296 993), (.ref 568)⟩, ⟨PyData.keyHash P s297, (.str s297 1000), (.ref 575)⟩, ⟨PyData.keyHash P s298, (.str s298 1008), (.ref 582)⟩, ⟨PyData.keyHash P s299, (.str s299 1020), (.ref 589)⟩, ⟨PyData.keyHash P s300, (.str s300 1028), (.ref 596)⟩, ⟨PyData.keyHash P s226, (.str s226 1035), (.ref 603)⟩, ⟨PyData.keyHash P s210, (.str s210 1039), (.ref 604)⟩]⟩ 36) }
noncomputable def q374 (P : Params) : Obj := { cls := (.type PySem.W.SL.s2766695959194262286x5), data := (.seq ⟨[]⟩ 0) }
noncomputable def q375 (P : Params) : Obj := { cls := .none, data := (.fields ⟨[(.int 220 0), (.int 4 0), (.ref 375), (.int 233 0), (.int 4 0), (.ref 382), (.int 241 0), (.int 4 0), (.ref 389), (.int 245 0), (.int 4 0), (.ref 396), (.int 249 0), (.int 4 0), (.ref 403), (.int 282 0), (.int 4 0), (.ref 410), (.int 286 0), (.int 4 0), (.ref 418), (.int 290 0), (.int 4 0), (.ref 426), (.int 294 0), (.int 4 0), (.ref 434), (.int 298 0), (.int 4 0), (.ref 442), (.int 301 0), (.int 4 0), (.ref 450), (.int 304 0), (.int 4 0), (.ref 457), (.int 308 0), (.int 4 0), (.ref 464), (.int 311 0), (.int 4 0), (.ref 471), (.int 315 0), (.int 4 0), (.ref 478), (.int 319 0), (.int 4 0), (.ref 485), (.int 323 0), (.int 4 0), (.ref 492), (.int 327 0), (.int 4 0), (.ref 499), (.int 330 0), (.int 4 0), (.ref 506), (.int 333 0), (.int 4 0), (.ref 513), (.int 336 0), (.int 4 0), (.ref 520), (.int 339 0), (.int 4 0), (.ref 527), (.int 343 0), (.int 4 0), (.ref 535), (.int 360 0), (.int 4 0), (.ref 543), (.int 363 0), (.int 4 0), (.ref 551), (.int 377 0), (.int 4 0), (.ref 559), (.int 384 0), (.int 4 0), (.ref 567), (.int 387 0), (.int 4 0), (.ref 574), (.int 391 0), (.int 4 0), (.ref 581), (.int 398 0), (.int 4 0), (.ref 588), (.int 417 0), (.int 4 0), (.ref 595), (.int 420 0), (.int 4 0), (.ref 602)]⟩) }
noncomputable def q376 (P : Params) : Obj := { cls := (.type PySem.W.SL.s5856160107412720595x4), data := (.fields ⟨[(.str s348 758), (.str s348 759), (.str s182 760), (.int 217 0), (.int 0 0), (.int 0 0), (.int 0 0), (.int 0 0), (.ref 365), (.bool false), (.int 318 0), (.ref 366), .none, .none, .none, .none, (.int 761 0), (.int 217 0), (.str s182 762)]⟩) }
noncomputable def q377 (P : Params) : Obj := { cls := (.type PySem.W.SL.s658472552662922059x5), slots := ⟨[some (.ref 367), some (.ref 3), some (.ref 364), none, some (.str s243 386), none, some (.ref 0)]⟩ }
noncomputable def q378 (P : Params) : Obj := { cls := (.type PySem.W.SL.s2766695959194262286x5), data := (.seq ⟨[(.str s186 770), (.str s357 771)]⟩ 0) }
noncomputable def q379 (P : Params) : Obj := { cls := (.type PySem.W.SL.s2766695959194262286x5), data := (.seq ⟨[]⟩ 0) }
noncomputable def q380 (P : Params) : Obj := { cls := .none, data := (.fields ⟨[]⟩) }
noncomputable def q381 (P : Params) : Obj := { cls := (.type PySem.W.SL.s2766695959194262286x5), data := (.seq ⟨[(.str s301 775), (.str s358 776), (.str s359 777)]⟩ 0) }
noncomputable def q382 (P : Params) : Obj := { cls := (.type PySem.W.SL.s2766695959194262286x5), data := (.seq ⟨[]⟩ 0) }
noncomputable def q383 (P : Params) : Obj := fnY (xC 15 1) s360
noncomputable def q384 (P : Params) : Obj := { cls := (.type PySem.W.SL.s5856160107412720595x4), data := (.fields ⟨[(.str s225 772), (.str s360 773), (.str s182 774), (.int 220 0), (.int 3 0), (.int 0 0), (.int 0 0), (.int 3 0), (.ref 370), (.bool true), (.int 318 0), (.ref 371), .none, (.ref 372), (.ref 373), (.ref 374), (.int 778 0), (.int 220 0), (.str s182 779)]⟩) }
noncomputable def q385 (P : Params) : Obj := fnX (xC 15 1) s360 (.ref 369) (.str s243 386) 375
noncomputable def q386 (P : Params) : Obj := { cls := (.type PySem.W.SL.s2766695959194262286x5), data := (.seq ⟨[]⟩ 0) }
noncomputable def q387 (P : Params) : Obj := { cls := .none, data := (.fields ⟨[]⟩) }
noncomputable def q388 (P : Params) : Obj := { cls := (.type PySem.W.SL.s2766695959194262286x5), data := (.seq ⟨[(.str s301 784), (.str s361 785), (.str s359 786)]⟩ 0) }
noncomputable def q389 (P : Params) : Obj := { cls := (.type PySem.W.SL.s2766695959194262286x5), data := (.seq ⟨[]⟩ 0) }
noncomputable def q390 (P : Params) : Obj := fnY (xC 15 2) s362
noncomputable def q391 (P : Params) : Obj := { cls := (.type PySem.W.SL.s5856160107412720595x4), data := (.fields ⟨[(.str s363 781), (.str s362 782), (.str s182 783), (.int 233 0), (.int 2 0), (.int 0 0), (.int 0 0), (.int 3 0), (.ref 377), (.bool true), (.int 318 0), (.ref 378), .none, (.ref 379), (.ref 380), (.ref 381), (.int 787 0), (.int 233 0), (.str s182 788)]⟩) }
noncomputable def q392 (P : Params) : Obj := fnX (xC 15 2) s362 .none (.str s243 386) 382
noncomputable def q393 (P : Params) : Obj := { cls := (.type PySem.W.SL.s2766695959194262286x5), data := (.seq ⟨[]⟩ 0) }
noncomputable def q394 (P : Params) : Obj := { cls := .none, data := (.fields ⟨[]⟩) }
noncomputable def q395 (P : Params) : Obj := { cls := (.type PySem.W.SL.s2766695959194262286x5), data := (.seq ⟨[(.str s301 793)]⟩ 0) }
noncomputable def q396 (P : Params) : Obj := { cls := (.type PySem.W.SL.s2766695959194262286x5), data := (.seq ⟨[]⟩ 0) }
noncomputable def q397 (P : Params) : Obj := fnY (xC 15 3) s364
noncomputable def q398 (P : Params) : Obj := { cls := (.type PySem.W.SL.s5856160107412720595x4), data := (.fields ⟨[(.str s305 790), (.str s364 791), (.str s182 792), (.int 241 0), (.int 1 0), (.int 0 0), (.int 0 0), (.int 3 0), (.ref 384), (.bool true), (.int 318 0), (.ref 385), .none, (.ref 386), (.ref 387), (.ref 388), (.int 794 0), (.int 241 0), (.str s182 795)]⟩) }
noncomputable def q399 (P : Params) : Obj := fnX (xC 15 3) s364 .none (.str s243 386) 389
noncomputable def q400 (P : Params) : Obj := { cls := (.type PySem.W.SL.s2766695959194262286x5), data := (.seq ⟨[]⟩ 0) }
noncomputable def q401 (P : Params) : Obj := { cls := .none, data := (.fields ⟨[]⟩) }
noncomputable def q402 (P : Params) : Obj := { cls := (.type PySem.W.SL.s2766695959194262286x5), data := (.seq ⟨[(.str s301 800)]⟩ 0) }
noncomputable def q403 (P : Params) : Obj := { cls := (.type PySem.W.SL.s2766695959194262286x5), data := (.seq ⟨[]⟩ 0) }
noncomputable def q404 (P : Params) : Obj := fnY (xC 15 4) s365
noncomputable def q405 (P : Params) : Obj := { cls := (.type PySem.W.SL.s5856160107412720595x4), data := (.fields ⟨[(.str s366 797), (.str s365 798), (.str s182 799), (.int 245 0), (.int 1 0), (.int 0 0), (.int 0 0), (.int 3 0), (.ref 391), (.bool true), (.int 318 0), (.ref 392), .none, (.ref 393), (.ref 394), (.ref 395), (.int 801 0), (.int 245 0), (.str s182 802)]⟩) }
noncomputable def q406 (P : Params) : Obj := fnX (xC 15 4) s365 .none (.str s243 386) 396
noncomputable def q407 (P : Params) : Obj := { cls := (.type PySem.W.SL.s2766695959194262286x5), data := (.seq ⟨[]⟩ 0) }
noncomputable def q408 (P : Params) : Obj := { cls := .none, data := (.fields ⟨[]⟩) }
noncomputable def q409 (P : Params) : Obj := { cls := (.type PySem.W.SL.s2766695959194262286x5), data := (.seq ⟨[(.str s301 807), (.str s306 808), (.str s307 809), (.str s308 810), (.str s367 811), (.str s359 812), (.str s309 813), (.str s368 814), (.str s369 815)]⟩ 0) }
noncomputable def q410 (P : Params) : Obj := { cls := (.type PySem.W.SL.s2766695959194262286x5), data := (.seq ⟨[]⟩ 0) }
noncomputable def q411 (P : Params) : Obj := fnY (xC 15 5) s370
noncomputable def q412 (P : Params) : Obj := { cls := (.type PySem.W.SL.s5856160107412720595x4), data := (.fields ⟨[(.str s311 804), (.str s370 805), (.str s182 806), (.int 249 0), (.int 2 0), (.int 0 0), (.int 0 0), (.int 3 0), (.ref 398), (.bool true), (.int 318 0), (.ref 399), .none, (.ref 400), (.ref 401), (.ref 402), (.int 816 0), (.int 249 0), (.str s182 817)]⟩) }
noncomputable def q413 (P : Params) : Obj := fnX (xC 15 5) s370 .none (.str s243 386) 403
noncomputable def q414 (P : Params) : Obj := { cls := (.type PySem.W.SL.s2766695959194262286x5), data := (.seq ⟨[]⟩ 0) }
noncomputable def q415 (P : Params) : Obj := { cls := .none, data := (.fields ⟨[]⟩) }
noncomputable def q416 (P : Params) : Obj := { cls := (.type PySem.W.SL.s2766695959194262286x5), data := (.seq ⟨[(.str s301 822)]⟩ 0) }
noncomputable def q417 (P : Params) : Obj := { cls := (.type PySem.W.SL.s2766695959194262286x5), data := (.seq ⟨[]⟩ 0) }
noncomputable def q418 (P : Params) : Obj := fnY (xC 15 6) s371
noncomputable def q419 (P : Params) : Obj := { cls := (.type PySem.W.SL.s5856160107412720595x4), data := (.fields ⟨[(.str s275 819), (.str s371 820), (.str s182 821), (.int 281 0), (.int 1 0), (.int 0 0), (.int 0 0), (.int 3 0), (.ref 405), (.bool true), (.int 318 0), (.ref 406), .none, (.ref 407), (.ref 408), (.ref 409), (.int 823 0), (.int 281 0), (.str s182 824)]⟩) }
noncomputable def q420 (P : Params) : Obj := fnX (xC 15 6) s371 .none (.str s243 386) 410
noncomputable def q421 (P : Params) : Obj := { cls := (.type PySem.W.SL.s8101838861749082086x8), data := (.fields ⟨[(.ref 411), .none, .none, .none, (.str s275 826), (.bool false)]⟩) }
noncomputable def q422 (P : Params) : Obj := { cls := (.type PySem.W.SL.s2766695959194262286x5), data := (.seq ⟨[]⟩ 0) }
noncomputable def q423 (P : Params) : Obj := { cls := .none, data := (.fields ⟨[]⟩) }
noncomputable def q424 (P : Params) : Obj := { cls := (.type PySem.W.SL.s2766695959194262286x5), data := (.seq ⟨[(.str s301 830)]⟩ 0) }
noncomputable def q425 (P : Params) : Obj := { cls := (.type PySem.W.SL.s2766695959194262286x5), data := (.seq ⟨[]⟩ 0) }
noncomputable def q426 (P : Params) : Obj := fnY (xC 15 7) s372
noncomputable def q427 (P : Params) : Obj := { cls := (.type PySem.W.SL.s5856160107412720595x4), data := (.fields ⟨[(.str s353 827), (.str s372 828), (.str s182 829), (.int 285 0), (.int 1 0), (.int 0 0), (.int 0 0), (.int 3 0), (.ref 413), (.bool true), (.int 318 0), (.ref 414), .none, (.ref 415), (.ref 416), (.ref 417), (.int 831 0), (.int 285 0), (.str s182 832)]⟩) }
noncomputable def q428 (P : Params) : Obj := fnX (xC 15 7) s372 .none (.str s243 386) 418
noncomputable def q429 (P : Params) : Obj := { cls := (.type PySem.W.SL.s8101838861749082086x8), data := (.fields ⟨[(.ref 419), .none, .none, .none, (.str s353 834), (.bool false)]⟩) }
noncomputable def q430 (P : Params) : Obj := { cls := (.type PySem.W.SL.s2766695959194262286x5), data := (.seq ⟨[]⟩ 0) }
noncomputable def q431 (P : Params) : Obj := { cls := .none, data := (.fields ⟨[]⟩) }
noncomputable def q432 (P : Params) : Obj := { cls := (.type PySem.W.SL.s2766695959194262286x5), data := (.seq ⟨[(.str s301 838)]⟩ 0) }
noncomputable def q433 (P : Params) : Obj := { cls := (.type PySem.W.SL.s2766695959194262286x5), data := (.seq ⟨[]⟩ 0) }
noncomputable def q434 (P : Params) : Obj := fnY (xC 15 8) s373
noncomputable def q435 (P : Params) : Obj := { cls := (.type PySem.W.SL.s5856160107412720595x4), data := (.fields ⟨[(.str s354 835), (.str s373 836), (.str s182 837), (.int 289 0), (.int 1 0), (.int 0 0), (.int 0 0), (.int 3 0), (.ref 421), (.bool true), (.int 318 0), (.ref 422), .none, (.ref 423), (.ref 424), (.ref 425), (.int 839 0), (.int 289 0), (.str s182 840)]⟩) }
noncomputable def q436 (P : Params) : Obj := fnX (xC 15 8) s373 .none (.str s243 386) 426
noncomputable def q437 (P : Params) : Obj := { cls := (.type PySem.W.SL.s8101838861749082086x8), data := (.fields ⟨[(.ref 427), .none, .none, .none, (.str s354 842), (.bool false)]⟩) }
noncomputable def q438 (P : Params) : Obj := { cls := (.type PySem.W.SL.s2766695959194262286x5), data := (.seq ⟨[]⟩ 0) }
noncomputable def q439 (P : Params) : Obj := { cls := .none, data := (.fields ⟨[]⟩) }
noncomputable def q440 (P : Params) : Obj := { cls := (.type PySem.W.SL.s2766695959194262286x5), data := (.seq ⟨[(.str s301 846)]⟩ 0) }
noncomputable def q441 (P : Params) : Obj := { cls := (.type PySem.W.SL.s2766695959194262286x5), data := (.seq ⟨[]⟩ 0) }
noncomputable def q442 (P : Params) : Obj := fnY (xC 15 9) s374
noncomputable def q443 (P : Params) : Obj := { cls := (.type PySem.W.SL.s5856160107412720595x4), data := (.fields ⟨[(.str s355 843), (.str s374 844), (.str s182 845), (.int 293 0), (.int 1 0), (.int 0 0), (.int 0 0), (.int 3 0), (.ref 429), (.bool true), (.int 318 0), (.ref 430), .none, (.ref 431), (.ref 432), (.ref 433), (.int 847 0), (.int 293 0), (.str s182 848)]⟩) }
noncomputable def q444 (P : Params) : Obj := fnX (xC 15 9) s374 .none (.str s243 386) 434
noncomputable def q445 (P : Params) : Obj := { cls := (.type PySem.W.SL.s8101838861749082086x8), data := (.fields ⟨[(.ref 435), .none, .none, .none, (.str s355 850), (.bool false)]⟩) }
noncomputable def q446 (P : Params) : Obj := { cls := (.type PySem.W.SL.s2766695959194262286x5), data := (.seq ⟨[]⟩ 0) }
noncomputable def q447 (P : Params) : Obj := { cls := .none, data := (.fields ⟨[]⟩) }
noncomputable def q448 (P : Params) : Obj := { cls := (.type PySem.W.SL.s2766695959194262286x5), data := (.seq ⟨[(.str s301 854)]⟩ 0) }
noncomputable def q449 (P : Params) : Obj := { cls := (.type PySem.W.SL.s2766695959194262286x5), data := (.seq ⟨[]⟩ 0) }
noncomputable def q450 (P : Params) : Obj := fnY (xC 15 10) s375
noncomputable def q451 (P : Params) : Obj := { cls := (.type PySem.W.SL.s5856160107412720595x4), data := (.fields ⟨[(.str s356 851), (.str s375 852), (.str s182 853), (.int 297 0), (.int 1 0), (.int 0 0), (.int 0 0), (.int 3 0), (.ref 437), (.bool true), (.int 318 0), (.ref 438), .none, (.ref 439), (.ref 440), (.ref 441), (.int 855 0), (.int 297 0), (.str s182 856)]⟩) }
noncomputable def q452 (P : Params) : Obj := fnX (xC 15 10) s375 .none (.str s243 386) 442
noncomputable def q453 (P : Params) : Obj := { cls := (.type PySem.W.SL.s8101838861749082086x8), data := (.fields ⟨[(.ref 443), .none, .none, .none, (.str s356 858), (.bool false)]⟩) }
noncomputable def q454 (P : Params) : Obj := { cls := (.type PySem.W.SL.s2766695959194262286x5), data := (.seq ⟨[]⟩ 0) }
noncomputable def q455 (P : Params) : Obj := { cls := .none, data := (.fields ⟨[]⟩) }
noncomputable def q456 (P : Params) : Obj := { cls := (.type PySem.W.SL.s2766695959194262286x5), data := (.seq ⟨[(.str s301 862)]⟩ 0) }
noncomputable def q457 (P : Params) : Obj := { cls := (.type PySem.W.SL.s2766695959194262286x5), data := (.seq ⟨[]⟩ 0) }
noncomputable def q458 (P : Params) : Obj := fnY (xC 15 11) s376
noncomputable def q459 (P : Params) : Obj := { cls := (.type PySem.W.SL.s5856160107412720595x4), data := (.fields ⟨[(.str s276 859), (.str s376 860), (.str s182 861), (.int 301 0), (.int 1 0), (.int 0 0), (.int 0 0), (.int 3 0), (.ref 445), (.bool true), (.int 318 0), (.ref 446), .none, (.ref 447), (.ref 448), (.ref 449), (.int 863 0), (.int 301 0), (.str s182 864)]⟩) }
noncomputable def q460 (P : Params) : Obj := fnX (xC 15 11) s376 .none (.str s243 386) 450
noncomputable def q461 (P : Params) : Obj := { cls := (.type PySem.W.SL.s2766695959194262286x5), data := (.seq ⟨[]⟩ 0) }
noncomputable def q462 (P : Params) : Obj := { cls := .none, data := (.fields ⟨[]⟩) }
noncomputable def q463 (P : Params) : Obj := { cls := (.type PySem.W.SL.s2766695959194262286x5), data := (.seq ⟨[(.str s301 869)]⟩ 0) }
noncomputable def q464 (P : Params) : Obj := { cls := (.type PySem.W.SL.s2766695959194262286x5), data := (.seq ⟨[]⟩ 0) }
noncomputable def q465 (P : Params) : Obj := fnY (xC 15 12) s377
noncomputable def q466 (P : Params) : Obj := { cls := (.type PySem.W.SL.s5856160107412720595x4), data := (.fields ⟨[(.str s277 866), (.str s377 867), (.str s182 868), (.int 304 0), (.int 1 0), (.int 0 0), (.int 0 0), (.int 3 0), (.ref 452), (.bool true), (.int 318 0), (.ref 453), .none, (.ref 454), (.ref 455), (.ref 456), (.int 870 0), (.int 304 0), (.str s182 871)]⟩) }
noncomputable def q467 (P : Params) : Obj := fnX (xC 15 12) s377 .none (.str s243 386) 457
noncomputable def q468 (P : Params) : Obj := { cls := (.type PySem.W.SL.s2766695959194262286x5), data := (.seq ⟨[]⟩ 0) }
noncomputable def q469 (P : Params) : Obj := { cls := .none, data := (.fields ⟨[]⟩) }
noncomputable def q470 (P : Params) : Obj := { cls := (.type PySem.W.SL.s2766695959194262286x5), data := (.seq ⟨[(.str s301 876), (.str s268 877)]⟩ 0) }
noncomputable def q471 (P : Params) : Obj := { cls := (.type PySem.W.SL.s2766695959194262286x5), data := (.seq ⟨[]⟩ 0) }
noncomputable def q472 (P : Params) : Obj := fnY (xC 15 13) s378
noncomputable def q473 (P : Params) : Obj := { cls := (.type PySem.W.SL.s5856160107412720595x4), data := (.fields ⟨[(.str s278 873), (.str s378 874), (.str s182 875), (.int 308 0), (.int 1 0), (.int 0 0), (.int 0 0), (.int 7 0), (.ref 459), (.bool true), (.int 318 0), (.ref 460), .none, (.ref 461), (.ref 462), (.ref 463), (.int 878 0), (.int 308 0), (.str s182 879)]⟩) }
noncomputable def q474 (P : Params) : Obj := fnX (xC 15 13) s378 .none (.str s243 386) 464
noncomputable def q475 (P : Params) : Obj := { cls := (.type PySem.W.SL.s2766695959194262286x5), data := (.seq ⟨[]⟩ 0) }
noncomputable def q476 (P : Params) : Obj := { cls := .none, data := (.fields ⟨[]⟩) }
noncomputable def q477 (P : Params) : Obj := { cls := (.type PySem.W.SL.s2766695959194262286x5), data := (.seq ⟨[(.str s301 884)]⟩ 0) }
noncomputable def q478 (P : Params) : Obj := { cls := (.type PySem.W.SL.s2766695959194262286x5), data := (.seq ⟨[]⟩ 0) }
noncomputable def q479 (P : Params) : Obj := fnY (xC 15 14) s379
noncomputable def q480 (P : Params) : Obj := { cls := (.type PySem.W.SL.s5856160107412720595x4), data := (.fields ⟨[(.str s279 881), (.str s379 882), (.str s182 883), (.int 311 0), (.int 1 0), (.int 0 0), (.int 0 0), (.int 3 0), (.ref 466), (.bool true), (.int 318 0), (.ref 467), .none, (.ref 468), (.ref 469), (.ref 470), (.int 885 0), (.int 311 0), (.str s182 886)]⟩) }
noncomputable def q481 (P : Params) : Obj := fnX (xC 15 14) s379 .none (.str s243 386) 471
noncomputable def q482 (P : Params) : Obj := { cls := (.type PySem.W.SL.s2766695959194262286x5), data := (.seq ⟨[]⟩ 0) }
noncomputable def q483 (P : Params) : Obj := { cls := .none, data := (.fields ⟨[]⟩) }
noncomputable def q484 (P : Params) : Obj := { cls := (.type PySem.W.SL.s2766695959194262286x5), data := (.seq ⟨[(.str s301 891)]⟩ 0) }
noncomputable def q485 (P : Params) : Obj := { cls := (.type PySem.W.SL.s2766695959194262286x5), data := (.seq ⟨[]⟩ 0) }
noncomputable def q486 (P : Params) : Obj := fnY (xC 15 15) s380
noncomputable def q487 (P : Params) : Obj := { cls := (.type PySem.W.SL.s5856160107412720595x4), data := (.fields ⟨[(.str s280 888), (.str s380 889), (.str s182 890), (.int 315 0), (.int 1 0), (.int 0 0), (.int 0 0), (.int 3 0), (.ref 473), (.bool true), (.int 318 0), (.ref 474), .none, (.ref 475), (.ref 476), (.ref 477), (.int 892 0), (.int 315 0), (.str s182 893)]⟩) }
noncomputable def q488 (P : Params) : Obj := fnX (xC 15 15) s380 .none (.str s243 386) 478
noncomputable def q489 (P : Params) : Obj := { cls := (.type PySem.W.SL.s2766695959194262286x5), data := (.seq ⟨[]⟩ 0) }
noncomputable def q490 (P : Params) : Obj := { cls := .none, data := (.fields ⟨[]⟩) }
noncomputable def q491 (P : Params) : Obj := { cls := (.type PySem.W.SL.s2766695959194262286x5), data := (.seq ⟨[(.str s301 898)]⟩ 0) }
noncomputable def q492 (P : Params) : Obj := { cls := (.type PySem.W.SL.s2766695959194262286x5), data := (.seq ⟨[]⟩ 0) }
noncomputable def q493 (P : Params) : Obj := fnY (xC 15 16) s381
noncomputable def q494 (P : Params) : Obj := { cls := (.type PySem.W.SL.s5856160107412720595x4), data := (.fields ⟨[(.str s281 895), (.str s381 896), (.str s182 897), (.int 319 0), (.int 1 0), (.int 0 0), (.int 0 0), (.int 3 0), (.ref 480), (.bool true), (.int 318 0), (.ref 481), .none, (.ref 482), (.ref 483), (.ref 484), (.int 899 0), (.int 319 0), (.str s182 900)]⟩) }
noncomputable def q495 (P : Params) : Obj := fnX (xC 15 16) s381 .none (.str s243 386) 485
noncomputable def q496 (P : Params) : Obj := { cls := (.type PySem.W.SL.s2766695959194262286x5), data := (.seq ⟨[]⟩ 0) }
noncomputable def q497 (P : Params) : Obj := { cls := .none, data := (.fields ⟨[]⟩) }
noncomputable def q498 (P : Params) : Obj := { cls := (.type PySem.W.SL.s2766695959194262286x5), data := (.seq ⟨[(.str s301 905)]⟩ 0) }
noncomputable def q499 (P : Params) : Obj := { cls := (.type PySem.W.SL.s2766695959194262286x5), data := (.seq ⟨[]⟩ 0) }
noncomputable def q500 (P : Params) : Obj := fnY (xC 15 17) s382
noncomputable def q501 (P : Params) : Obj := { cls := (.type PySem.W.SL.s5856160107412720595x4), data := (.fields ⟨[(.str s282 902), (.str s382 903), (.str s182 904), (.int 323 0), (.int 1 0), (.int 0 0), (.int 0 0), (.int 3 0), (.ref 487), (.bool true), (.int 318 0), (.ref 488), .none, (.ref 489), (.ref 490), (.ref 491), (.int 906 0), (.int 323 0), (.str s182 907)]⟩) }
noncomputable def q502 (P : Params) : Obj := fnX (xC 15 17) s382 .none (.str s243 386) 492
noncomputable def q503 (P : Params) : Obj := { cls := (.type PySem.W.SL.s2766695959194262286x5), data := (.seq ⟨[]⟩ 0) }
noncomputable def q504 (P : Params) : Obj := { cls := .none, data := (.fields ⟨[]⟩) }
noncomputable def q505 (P : Params) : Obj := { cls := (.type PySem.W.SL.s2766695959194262286x5), data := (.seq ⟨[(.str s301 912)]⟩ 0) }
noncomputable def q506 (P : Params) : Obj := { cls := (.type PySem.W.SL.s2766695959194262286x5), data := (.seq ⟨[]⟩ 0) }
noncomputable def q507 (P : Params) : Obj := fnY (xC 15 18) s383
noncomputable def q508 (P : Params) : Obj := { cls := (.type PySem.W.SL.s5856160107412720595x4), data := (.fields ⟨[(.str s283 909), (.str s383 910), (.str s182 911), (.int 327 0), (.int 1 0), (.int 0 0), (.int 0 0), (.int 3 0), (.ref 494), (.bool true), (.int 318 0), (.ref 495), .none, (.ref 496), (.ref 497), (.ref 498), (.int 913 0), (.int 327 0), (.str s182 914)]⟩) }
noncomputable def q509 (P : Params) : Obj := fnX (xC 15 18) s383 .none (.str s243 386) 499
noncomputable def q510 (P : Params) : Obj := { cls := (.type PySem.W.SL.s2766695959194262286x5), data := (.seq ⟨[]⟩ 0) }
noncomputable def q511 (P : Params) : Obj := { cls := .none, data := (.fields ⟨[]⟩) }
noncomputable def q512 (P : Params) : Obj := { cls := (.type PySem.W.SL.s2766695959194262286x5), data := (.seq ⟨[(.str s301 919)]⟩ 0) }
noncomputable def q513 (P : Params) : Obj := { cls := (.type PySem.W.SL.s2766695959194262286x5), data := (.seq ⟨[]⟩ 0) }
noncomputable def q514 (P : Params) : Obj := fnY (xC 15 19) s384
noncomputable def q515 (P : Params) : Obj := { cls := (.type PySem.W.SL.s5856160107412720595x4), data := (.fields ⟨[(.str s284 916), (.str s384 917), (.str s182 918), (.int 330 0), (.int 1 0), (.int 0 0), (.int 0 0), (.int 3 0), (.ref 501), (.bool true), (.int 318 0), (.ref 502), .none, (.ref 503), (.ref 504), (.ref 505), (.int 920 0), (.int 330 0), (.str s182 921)]⟩) }
noncomputable def q516 (P : Params) : Obj := fnX (xC 15 19) s384 .none (.str s243 386) 506
noncomputable def q517 (P : Params) : Obj := { cls := (.type PySem.W.SL.s2766695959194262286x5), data := (.seq ⟨[]⟩ 0) }
noncomputable def q518 (P : Params) : Obj := { cls := .none, data := (.fields ⟨[]⟩) }
noncomputable def q519 (P : Params) : Obj := { cls := (.type PySem.W.SL.s2766695959194262286x5), data := (.seq ⟨[(.str s301 926)]⟩ 0) }
noncomputable def q520 (P : Params) : Obj := { cls := (.type PySem.W.SL.s2766695959194262286x5), data := (.seq ⟨[]⟩ 0) }
noncomputable def q521 (P : Params) : Obj := fnY (xC 15 20) s385
noncomputable def q522 (P : Params) : Obj := { cls := (.type PySem.W.SL.s5856160107412720595x4), data := (.fields ⟨[(.str s285 923), (.str s385 924), (.str s182 925), (.int 333 0), (.int 1 0), (.int 0 0), (.int 0 0), (.int 3 0), (.ref 508), (.bool true), (.int 318 0), (.ref 509), .none, (.ref 510), (.ref 511), (.ref 512), (.int 927 0), (.int 333 0), (.str s182 928)]⟩) }
noncomputable def q523 (P : Params) : Obj := fnX (xC 15 20) s385 .none (.str s243 386) 513
noncomputable def q524 (P : Params) : Obj := { cls := (.type PySem.W.SL.s2766695959194262286x5), data := (.seq ⟨[]⟩ 0) }
noncomputable def q525 (P : Params) : Obj := { cls := .none, data := (.fields ⟨[]⟩) }
noncomputable def q526 (P : Params) : Obj := { cls := (.type PySem.W.SL.s2766695959194262286x5), data := (.seq ⟨[(.str s301 933)]⟩ 0) }
noncomputable def q527 (P : Params) : Obj := { cls := (.type PySem.W.SL.s2766695959194262286x5), data := (.seq ⟨[]⟩ 0) }
noncomputable def q528 (P : Params) : Obj := fnY (xC 15 21) s386
noncomputable def q529 (P : Params) : Obj := { cls := (.type PySem.W.SL.s5856160107412720595x4), data := (.fields ⟨[(.str s286 930), (.str s386 931), (.str s182 932), (.int 336 0), (.int 1 0), (.int 0 0), (.int 0 0), (.int 3 0), (.ref 515), (.bool true), (.int 318 0), (.ref 516), .none, (.ref 517), (.ref 518), (.ref 519), (.int 934 0), (.int 336 0), (.str s182 935)]⟩) }
noncomputable def q530 (P : Params) : Obj := fnX (xC 15 21) s386 .none (.str s243 386) 520
noncomputable def q531 (P : Params) : Obj := { cls := (.type PySem.W.SL.s2766695959194262286x5), data := (.seq ⟨[]⟩ 0) }
noncomputable def q532 (P : Params) : Obj := { cls := .none, data := (.fields ⟨[]⟩) }
noncomputable def q533 (P : Params) : Obj := { cls := (.type PySem.W.SL.s2766695959194262286x5), data := (.seq ⟨[(.str s301 940)]⟩ 0) }
noncomputable def q534 (P : Params) : Obj := { cls := (.type PySem.W.SL.s2766695959194262286x5), data := (.seq ⟨[]⟩ 0) }
noncomputable def q535 (P : Params) : Obj := fnY (xC 15 22) s387
noncomputable def q536 (P : Params) : Obj := { cls := (.type PySem.W.SL.s5856160107412720595x4), data := (.fields ⟨[(.str s288 937), (.str s387 938), (.str s182 939), (.int 339 0), (.int 1 0), (.int 0 0), (.int 0 0), (.int 3 0), (.ref 522), (.bool true), (.int 318 0), (.ref 523), .none, (.ref 524), (.ref 525), (.ref 526), (.int 941 0), (.int 339 0), (.str s182 942)]⟩) }
noncomputable def q537 (P : Params) : Obj := fnX (xC 15 22) s387 .none (.str s243 386) 527
noncomputable def q538 (P : Params) : Obj := { cls := (.type PySem.W.SL.s2766695959194262286x5), data := (.seq ⟨[(.int 0 944)]⟩ 0) }
noncomputable def q539 (P : Params) : Obj := { cls := (.type PySem.W.SL.s2766695959194262286x5), data := (.seq ⟨[]⟩ 0) }
noncomputable def q540 (P : Params) : Obj := { cls := .none, data := (.fields ⟨[]⟩) }
noncomputable def q541 (P : Params) : Obj := { cls := (.type PySem.W.SL.s2766695959194262286x5), data := (.seq ⟨[(.str s301 948), (.str s326 949), (.str s327 950)]⟩ 0) }
noncomputable def q542 (P : Params) : Obj := { cls := (.type PySem.W.SL.s2766695959194262286x5), data := (.seq ⟨[]⟩ 0) }
noncomputable def q543 (P : Params) : Obj := fnY (xC 15 23) s388
noncomputable def q544 (P : Params) : Obj := { cls := (.type PySem.W.SL.s5856160107412720595x4), data := (.fields ⟨[(.str s289 945), (.str s388 946), (.str s182 947), (.int 343 0), (.int 3 0), (.int 3 0), (.int 0 0), (.int 3 0), (.ref 530), (.bool true), (.int 318 0), (.ref 531), .none, (.ref 532), (.ref 533), (.ref 534), (.int 951 0), (.int 343 0), (.str s182 952)]⟩) }
noncomputable def q545 (P : Params) : Obj := fnX (xC 15 23) s388 (.ref 529) (.str s243 386) 535
noncomputable def q546 (P : Params) : Obj := { cls := (.type PySem.W.SL.s2766695959194262286x5), data := (.seq ⟨[.none]⟩ 0) }
noncomputable def q547 (P : Params) : Obj := { cls := (.type PySem.W.SL.s2766695959194262286x5), data := (.seq ⟨[]⟩ 0) }
noncomputable def q548 (P : Params) : Obj := { cls := .none, data := (.fields ⟨[]⟩) }
noncomputable def q549 (P : Params) : Obj := { cls := (.type PySem.W.SL.s2766695959194262286x5), data := (.seq ⟨[(.str s301 957), (.str s326 958)]⟩ 0) }
noncomputable def q550 (P : Params) : Obj := { cls := (.type PySem.W.SL.s2766695959194262286x5), data := (.seq ⟨[]⟩ 0) }
noncomputable def q551 (P : Params) : Obj := fnY (xC 15 24) s389
noncomputable def q552 (P : Params) : Obj := { cls := (.type PySem.W.SL.s5856160107412720595x4), data := (.fields ⟨[(.str s290 954), (.str s389 955), (.str s182 956), (.int 360 0), (.int 2 0), (.int 2 0), (.int 0 0), (.int 3 0), (.ref 538), (.bool true), (.int 318 0), (.ref 539), .none, (.ref 540), (.ref 541), (.ref 542), (.int 959 0), (.int 360 0), (.str s182 960)]⟩) }
noncomputable def q553 (P : Params) : Obj := fnX (xC 15 24) s389 (.ref 537) (.str s243 386) 543
noncomputable def q554 (P : Params) : Obj := { cls := (.type PySem.W.SL.s2766695959194262286x5), data := (.seq ⟨[(.int (-1) 963)]⟩ 0) }
noncomputable def q555 (P : Params) : Obj := { cls := (.type PySem.W.SL.s2766695959194262286x5), data := (.seq ⟨[]⟩ 0) }
noncomputable def q556 (P : Params) : Obj := { cls := .none, data := (.fields ⟨[]⟩) }
noncomputable def q557 (P : Params) : Obj := { cls := (.type PySem.W.SL.s2766695959194262286x5), data := (.seq ⟨[(.str s301 967), (.str s329 968), (.str s307 969), (.str s308 970)]⟩ 0) }
noncomputable def q558 (P : Params) : Obj := { cls := (.type PySem.W.SL.s2766695959194262286x5), data := (.seq ⟨[]⟩ 0) }
noncomputable def q559 (P : Params) : Obj := fnY (xC 15 25) s390
noncomputable def q560 (P : Params) : Obj := { cls := (.type PySem.W.SL.s5856160107412720595x4), data := (.fields ⟨[(.str s291 964), (.str s390 965), (.str s182 966), (.int 363 0), (.int 2 0), (.int 2 0), (.int 0 0), (.int 3 0), (.ref 546), (.bool true), (.int 318 0), (.ref 547), .none, (.ref 548), (.ref 549), (.ref 550), (.int 971 0), (.int 363 0), (.str s182 972)]⟩) }
noncomputable def q561 (P : Params) : Obj := fnX (xC 15 25) s390 (.ref 545) (.str s243 386) 551
noncomputable def q562 (P : Params) : Obj := { cls := (.type PySem.W.SL.s2766695959194262286x5), data := (.seq ⟨[(.int (-1) 975)]⟩ 0) }
noncomputable def q563 (P : Params) : Obj := { cls := (.type PySem.W.SL.s2766695959194262286x5), data := (.seq ⟨[]⟩ 0) }
noncomputable def q564 (P : Params) : Obj := { cls := .none, data := (.fields ⟨[]⟩) }
noncomputable def q565 (P : Params) : Obj := { cls := (.type PySem.W.SL.s2766695959194262286x5), data := (.seq ⟨[(.str s301 979), (.str s329 980)]⟩ 0) }
noncomputable def q566 (P : Params) : Obj := { cls := (.type PySem.W.SL.s2766695959194262286x5), data := (.seq ⟨[]⟩ 0) }
noncomputable def q567 (P : Params) : Obj := fnY (xC 15 26) s391
noncomputable def q568 (P : Params) : Obj := { cls := (.type PySem.W.SL.s5856160107412720595x4), data := (.fields ⟨[(.str s295 976), (.str s391 977), (.str s182 978), (.int 377 0), (.int 2 0), (.int 2 0), (.int 0 0), (.int 3 0), (.ref 554), (.bool true), (.int 318 0), (.ref 555), .none, (.ref 556), (.ref 557), (.ref 558), (.int 981 0), (.int 377 0), (.str s182 982)]⟩) }
noncomputable def q569 (P : Params) : Obj := fnX (xC 15 26) s391 (.ref 553) (.str s243 386) 559
noncomputable def q570 (P : Params) : Obj := { cls := (.type PySem.W.SL.s2766695959194262286x5), data := (.seq ⟨[(.int (-1) 985)]⟩ 0) }
noncomputable def q571 (P : Params) : Obj := { cls := (.type PySem.W.SL.s2766695959194262286x5), data := (.seq ⟨[]⟩ 0) }
noncomputable def q572 (P : Params) : Obj := { cls := .none, data := (.fields ⟨[]⟩) }
noncomputable def q573 (P : Params) : Obj := { cls := (.type PySem.W.SL.s2766695959194262286x5), data := (.seq ⟨[(.str s301 989), (.str s392 990)]⟩ 0) }
noncomputable def q574 (P : Params) : Obj := { cls := (.type PySem.W.SL.s2766695959194262286x5), data := (.seq ⟨[]⟩ 0) }
noncomputable def q575 (P : Params) : Obj := fnY (xC 15 27) s393
noncomputable def q576 (P : Params) : Obj := { cls := (.type PySem.W.SL.s5856160107412720595x4), data := (.fields ⟨[(.str s296 986), (.str s393 987), (.str s182 988), (.int 384 0), (.int 2 0), (.int 2 0), (.int 0 0), (.int 3 0), (.ref 562), (.bool true), (.int 318 0), (.ref 563), .none, (.ref 564), (.ref 565), (.ref 566), (.int 991 0), (.int 384 0), (.str s182 992)]⟩) }
noncomputable def q577 (P : Params) : Obj := fnX (xC 15 27) s393 (.ref 561) (.str s243 386) 567
noncomputable def q578 (P : Params) : Obj := { cls := (.type PySem.W.SL.s2766695959194262286x5), data := (.seq ⟨[]⟩ 0) }
noncomputable def q579 (P : Params) : Obj := { cls := .none, data := (.fields ⟨[]⟩) }
noncomputable def q580 (P : Params) : Obj := { cls := (.type PySem.W.SL.s2766695959194262286x5), data := (.seq ⟨[(.str s301 997)]⟩ 0) }
noncomputable def q581 (P : Params) : Obj := { cls := (.type PySem.W.SL.s2766695959194262286x5), data := (.seq ⟨[]⟩ 0) }
noncomputable def q582 (P : Params) : Obj := fnY (xC 15 28) s394
noncomputable def q583 (P : Params) : Obj := { cls := (.type PySem.W.SL.s5856160107412720595x4), data := (.fields ⟨[(.str s297 994), (.str s394 995), (.str s182 996), (.int 387 0), (.int 1 0), (.int 0 0), (.int 0 0), (.int 3 0), (.ref 569), (.bool true), (.int 318 0), (.ref 570), .none, (.ref 571), (.ref 572), (.ref 573), (.int 998 0), (.int 387 0), (.str s182 999)]⟩) }
noncomputable def q584 (P : Params) : Obj := fnX (xC 15 28) s394 .none (.str s243 386) 574
noncomputable def q585 (P : Params) : Obj := { cls := (.type PySem.W.SL.s2766695959194262286x5), data := (.seq ⟨[]⟩ 0) }
noncomputable def q586 (P : Params) : Obj := { cls := .none, data := (.fields ⟨[]⟩) }
noncomputable def q587 (P : Params) : Obj := { cls := (.type PySem.W.SL.s2766695959194262286x5), data := (.seq ⟨[(.str s301 1004), (.str s339 1005)]⟩ 0) }
noncomputable def q588 (P : Params) : Obj := { cls := (.type PySem.W.SL.s2766695959194262286x5), data := (.seq ⟨[]⟩ 0) }
noncomputable def q589 (P : Params) : Obj := fnY (xC 15 29) s395
noncomputable def q590 (P : Params) : Obj := { cls := (.type PySem.W.SL.s5856160107412720595x4), data := (.fields ⟨[(.str s298 1001), (.str s395 1002), (.str s182 1003), (.int 391 0), (.int 1 0), (.int 0 0), (.int 0 0), (.int 3 0), (.ref 576), (.bool true), (.int 318 0), (.ref 577), .none, (.ref 578), (.ref 579), (.ref 580), (.int 1006 0), (.int 391 0), (.str s182 1007)]⟩) }
noncomputable def q591 (P : Params) : Obj := fnX (xC 15 29) s395 .none (.str s243 386) 581
noncomputable def q592 (P : Params) : Obj := { cls := (.type PySem.W.SL.s2766695959194262286x5), data := (.seq ⟨[]⟩ 0) }
noncomputable def q593 (P : Params) : Obj := { cls := .none, data := (.fields ⟨[]⟩) }
noncomputable def q594 (P : Params) : Obj := { cls := (.type PySem.W.SL.s2766695959194262286x5), data := (.seq ⟨[(.str s301 1012), (.str s361 1013), (.str s263 1014), (.str s396 1015), (.str s307 1016), (.str s397 1017)]⟩ 0) }
noncomputable def q595 (P : Params) : Obj := { cls := (.type PySem.W.SL.s2766695959194262286x5), data := (.seq ⟨[]⟩ 0) }
noncomputable def q596 (P : Params) : Obj := fnY (xC 15 30) s398
noncomputable def q597 (P : Params) : Obj := { cls := (.type PySem.W.SL.s5856160107412720595x4), data := (.fields ⟨[(.str s299 1009), (.str s398 1010), (.str s182 1011), (.int 398 0), (.int 2 0), (.int 2 0), (.int 0 0), (.int 3 0), (.ref 583), (.bool true), (.int 318 0), (.ref 584), .none, (.ref 585), (.ref 586), (.ref 587), (.int 1018 0), (.int 398 0), (.str s182 1019)]⟩) }
noncomputable def q598 (P : Params) : Obj := fnX (xC 15 30) s398 .none (.str s243 386) 588
noncomputable def q599 (P : Params) : Obj := { cls := (.type PySem.W.SL.s2766695959194262286x5), data := (.seq ⟨[]⟩ 0) }
noncomputable def q600 (P : Params) : Obj := { cls := .none, data := (.fields ⟨[]⟩) }
noncomputable def q601 (P : Params) : Obj := { cls := (.type PySem.W.SL.s2766695959194262286x5), data := (.seq ⟨[(.str s301 1024), (.str s343 1025)]⟩ 0) }
noncomputable def q602 (P : Params) : Obj := { cls := (.type PySem.W.SL.s2766695959194262286x5), data := (.seq ⟨[]⟩ 0) }
noncomputable def q603 (P : Params) : Obj := fnY (xC 15 31) s399
noncomputable def q604 (P : Params) : Obj := { cls := (.type PySem.W.SL.s5856160107412720595x4), data := (.fields ⟨[(.str s300 1021), (.str s399 1022), (.str s182 1023), (.int 417 0), (.int 2 0), (.int 2 0), (.int 0 0), (.int 3 0), (.ref 590), (.bool true), (.int 318 0), (.ref 591), .none, (.ref 592), (.ref 593), (.ref 594), (.int 1026 0), (.int 417 0), (.str s182 1027)]⟩) }
noncomputable def q605 (P : Params) : Obj := fnX (xC 15 31) s399 .none (.str s243 386) 595
noncomputable def q606 (P : Params) : Obj := { cls := (.type PySem.W.SL.s2766695959194262286x5), data := (.seq ⟨[]⟩ 0) }
noncomputable def q607 (P : Params) : Obj := { cls := .none, data := (.fields ⟨[]⟩) }
noncomputable def q608 (P : Params) : Obj := { cls := (.type PySem.W.SL.s2766695959194262286x5), data := (.seq ⟨[(.str s301 1032)]⟩ 0) }
noncomputable def q609 (P : Params) : Obj := { cls := (.type PySem.W.SL.s2766695959194262286x5), data := (.seq ⟨[]⟩ 0) }
noncomputable def q610 (P : Params) : Obj := fnY (xC 15 32) s400
noncomputable def q611 (P : Params) : Obj := { cls := (.type PySem.W.SL.s5856160107412720595x4), data := (.fields ⟨[(.str s226 1029), (.str s400 1030), (.str s182 1031), (.int 420 0), (.int 1 0), (.int 0 0), (.int 0 0), (.int 3 0), (.ref 597), (.bool true), (.int 318 0), (.ref 598), .none, (.ref 599), (.ref 600), (.ref 601), (.int 1033 0), (.int 420 0), (.str s182 1034)]⟩) }
noncomputable def q612 (P : Params) : Obj := fnX (xC 15 32) s400 .none (.str s243 386) 602
noncomputable def q613 (P : Params) : Obj := { cls := (.type PySem.W.SL.s2766695959194262286x5), data := (.seq ⟨[(.str s346 1036), (.str s401 1037), (.str s347 1038)]⟩ 0) }
noncomputable def q614 (P : Params) : Obj := { cls := (.type PySem.W.SL.s14018661285674007319x4), data := (.dict ⟨[⟨PyData.keyHash P s198, (.str s198 763), (.str s272 768)⟩, ⟨PyData.keyHash P s200, (.str s200 767), (.int 217 766)⟩, ⟨PyData.keyHash P s225, (.str s225 780), (.ref 376)⟩, ⟨PyData.keyHash P s349, (.str s349 789), (.ref 383)⟩, ⟨PyData.keyHash P s350, (.str s350 796), (.ref 390)⟩, ⟨PyData.keyHash P s351, (.str s351 803), (.ref 397)⟩, ⟨PyData.keyHash P s352, (.str s352 818), (.ref 404)⟩, ⟨PyData.keyHash P s275, (.str s275 826), (.ref 412)⟩, ⟨PyData.keyHash P s353, (.str s353 834), (.ref 420)⟩, ⟨PyData.keyHash P s354, (.str s354 842), (.ref 428)⟩, ⟨PyData.keyHash P s355, (.str s355 850), (.ref 436)⟩, ⟨PyData.keyHash P s356, (.str s356 858), (.ref 444)⟩, ⟨PyData.keyHash P s276, (.str s276 865), (.ref 451)⟩, ⟨PyData.keyHash P s277, (.str s277 872), (.ref 458)⟩, ⟨PyData.keyHash P s278, (.str s278 880), (.ref 465)⟩, ⟨PyData.keyHash P s279, (.str s279 887), (.ref 472)⟩, ⟨PyData.keyHash P s280, (.str s280 894), (.ref 479)⟩, ⟨PyData.keyHash P s281, (.str s281 901), (.ref 486)⟩, ⟨PyData.keyHash P s282, (.str s282 908), (.ref 493)⟩, ⟨PyData.keyHash P s283, (.str s283 915), (.ref 500)⟩, ⟨PyData.keyHash P s284, (.str s284 922), (.ref 507)⟩, ⟨PyData.keyHash P s285, (.str s285 929), (.ref 514)⟩, ⟨PyData.keyHash P s286, (.str s286 936), (.ref 521)⟩, ⟨PyData.keyHash P s288, (.str s288 943), (.ref 528)⟩, ⟨PyData.keyHash P s289, (.str s289 953), (.ref 536)⟩, ⟨PyData.keyHash P s290, (.str s290 961), (.ref 544)⟩, ⟨PyData.keyHash P s291, (.str s291 973), (.ref 552)⟩, ⟨PyData.keyHash P s295, (.str s295 983), (.ref 560)⟩, ⟨PyData.keyHash P s296, (.str s296 993), (.ref 568)⟩, ⟨PyData.keyHash P s297, (.str s297 1000), (.ref 575)⟩, ⟨PyData.keyHash P s298, (.str s298 1008), (.ref 582)⟩, ⟨PyData.keyHash P s299, (.str s299 1020), (.ref 589)⟩, ⟨PyData.keyHash P s300, (.str s300 1028), (.ref 596)⟩, ⟨PyData.keyHash P s226, (.str s226 1035), (.ref 603)⟩, ⟨PyData.keyHash P s210, (.str s210 1039), (.ref 604)⟩, ⟨PyData.keyHash P s2, (.str s2 1040), .none⟩]⟩ 2) }
noncomputable def q615 (P : Params) : Obj := { cls := (.type PySem.W.SL.s17162191345867700912x4), data := (.cls { name := s348, bases := [(.ref 129)], mro := [(.ref 606), (.ref 129), (.ref 102), (.type PySem.W.SL.s2742458400755230247x6)], ns := 605, qualname := s348, hasDict := true, slotNames := [], subclasses := [], abstract := false, collection := none, hasDel := false }), slots := ⟨[some (.ref 362), none, some (.str s348 756), some (.str s348 764), some .none, some (.bool true)]⟩ }
noncomputable def q616 (P : Params) : Obj := { cls := (.type PySem.W.SL.s4290257624100764138x5), data := (.fields ⟨[(.ref 606), (.ref 606), (.ref 606)]⟩) }
noncomputable def q617 (P : Params) : Obj := { cls := (.type PySem.W.SL.s11030030927630378310x26), data := (.fields ⟨[(.builtin PySem.W.SL.s4860613602091757760x24), (.ref 606)]⟩) }
noncomputable def T3 (P : Params) : BT := (.node (q0 P) (.node (q1 P) (.node (q368 P) (.node (q7 P) (.node (q15 P) (.node (q31 P) (.node (q66 P) (.node (q130 P) (.node (q261 P) (.node (q520 P) .nil .nil) .nil) (.node (q392 P) .nil .nil)) (.node (q197 P) (.node (q325 P) (.node (q584 P) .nil .nil) .nil) (.node (q456 P) .nil .nil))) (.node (q98 P) (.node (q165 P) (.node (q293 P) (.node (q552 P) .nil .nil) .nil) (.node (q424 P) .nil .nil)) (.node (q229 P) (.node (q357 P) (.node (q616 P) .nil .nil) .nil) (.node (q488 P) .nil .nil)))) (.node (q50 P) (.node (q82 P) (.node (q149 P) (.node (q277 P) (.node (q536 P) .nil .nil) .nil) (.node (q408 P) .nil .nil)) (.node (q213 P) (.node (q341 P) (.node (q600 P) .nil .nil) .nil) (.node (q472 P) .nil .nil))) (.node (q114 P) (.node (q181 P) (.node (q309 P) (.node (q568 P) .nil .nil) .nil) (.node (q440 P) .nil .nil)) (.node (q245 P) (.node (q376 P) .nil .nil) (.node (q504 P) .nil .nil))))) (.node (q23 P) (.node (q42 P) (.node (q74 P) (.node (q141 P) (.node (q269 P) (.node (q528 P) .nil .nil) .nil) (.node (q400 P) .nil .nil)) (.node (q205 P) (.node (q333 P) (.node (q592 P) .nil .nil) .nil) (.node (q464 P) .nil .nil))) (.node (q106 P) (.node (q173 P) (.node (q301 P) (.node (q560 P) .nil .nil) .nil) (.node (q432 P) .nil .nil)) (.node (q237 P) (.node (q365 P) .nil .nil) (.node (q496 P) .nil .nil)))) (.node (q58 P) (.node (q90 P) (.node (q157 P) (.node (q285 P) (.node (q544 P) .nil .nil) .nil) (.node (q416 P) .nil .nil)) (.node (q221 P) (.node (q349 P) (.node (q608 P) .nil .nil) .nil) (.node (q480 P) .nil .nil))) (.node (q122 P) (.node (q189 P) (.node (q317 P) (.node (q576 P) .nil .nil) .nil) (.node (q448 P) .nil .nil)) (.node (q253 P) (.node (q384 P) .nil .nil) (.node (q512 P) .nil .nil)))))) (.node (q11 P) (.node (q19 P) (.node (q369 P) (.node (q70 P) (.node (q134 P) (.node (q265 P) (.node (q524 P) .nil .nil) .nil) (.node (q396 P) .nil .nil)) (.node (q201 P) (.node (q329 P) (.node (q588 P) .nil .nil) .nil) (.node (q460 P) .nil .nil))) (.node (q102 P) (.node (q169 P) (.node (q297 P) (.node (q556 P) .nil .nil) .nil) (.node (q428 P) .nil .nil)) (.node (q233 P) (.node (q361 P) .nil .nil) (.node (q492 P) .nil .nil)))) (.node (q54 P) (.node (q86 P) (.node (q153 P) (.node (q281 P) (.node (q540 P) .nil .nil) .nil) (.node (q412 P) .nil .nil)) (.node (q217 P) (.node (q345 P) (.node (q604 P) .nil .nil) .nil) (.node (q476 P) .nil .nil))) (.node (q118 P) (.node (q185 P) (.node (q313 P) (.node (q572 P) .nil .nil) .nil) (.node (q444 P) .nil .nil)) (.node (q249 P) (.node (q380 P) .nil .nil) (.node (q508 P) .nil .nil))))) (.node (q27 P) (.node (q46 P) (.node (q78 P) (.node (q145 P) (.node (q273 P) (.node (q532 P) .nil .nil) .nil) (.node (q404 P) .nil .nil)) (.node (q209 P) (.node (q337 P) (.node (q596 P) .nil .nil) .nil) (.node (q468 P) .nil .nil))) (.node (q110 P) (.node (q177 P) (.node (q305 P) (.node (q564 P) .nil .nil) .nil) (.node (q436 P) .nil .nil)) (.node (q241 P) (.node (q372 P) .nil .nil) (.node (q500 P) .nil .nil)))) (.node (q62 P) (.node (q94 P) (.node (q161 P) (.node (q289 P) (.node (q548 P) .nil .nil) .nil) (.node (q420 P) .nil .nil)) (.node (q225 P) (.node (q353 P) (.node (q612 P) .nil .nil) .nil) (.node (q484 P) .nil .nil))) (.node (q126 P) (.node (q193 P) (.node (q321 P) (.node (q580 P) .nil .nil) .nil) (.node (q452 P) .nil .nil)) (.node (q257 P) (.node (q388 P) .nil .nil) (.node (q516 P) .nil .nil))))))) (.node (q5 P) (.node (q9 P) (.node (q17 P) (.node (q33 P) (.node (q68 P) (.node (q370 P) (.node (q263 P) (.node (q522 P) .nil .nil) .nil) (.node (q394 P) .nil .nil)) (.node (q199 P) (.node (q327 P) (.node (q586 P) .nil .nil) .nil) (.node (q458 P) .nil .nil))) (.node (q100 P) (.node (q167 P) (.node (q295 P) (.node (q554 P) .nil .nil) .nil) (.node (q426 P) .nil .nil)) (.node (q231 P) (.node (q359 P) .nil .nil) (.node (q490 P) .nil .nil)))) (.node (q52 P) (.node (q84 P) (.node (q151 P) (.node (q279 P) (.node (q538 P) .nil .nil) .nil) (.node (q410 P) .nil .nil)) (.node (q215 P) (.node (q343 P) (.node (q602 P) .nil .nil) .nil) (.node (q474 P) .nil .nil))) (.node (q116 P) (.node (q183 P) (.node (q311 P) (.node (q570 P) .nil .nil) .nil) (.node (q442 P) .nil .nil)) (.node (q247 P) (.node (q378 P) .nil .nil) (.node (q506 P) .nil .nil))))) (.node (q25 P) (.node (q44 P) (.node (q76 P) (.node (q143 P) (.node (q271 P) (.node (q530 P) .nil .nil) .nil) (.node (q402 P) .nil .nil)) (.node (q207 P) (.node (q335 P) (.node (q594 P) .nil .nil) .nil) (.node (q466 P) .nil .nil))) (.node (q108 P) (.node (q175 P) (.node (q303 P) (.node (q562 P) .nil .nil) .nil) (.node (q434 P) .nil .nil)) (.node (q239 P) (.node (q367 P) .nil .nil) (.node (q498 P) .nil .nil)))) (.node (q60 P) (.node (q92 P) (.node (q159 P) (.node (q287 P) (.node (q546 P) .nil .nil) .nil) (.node (q418 P) .nil .nil)) (.node (q223 P) (.node (q351 P) (.node (q610 P) .nil .nil) .nil) (.node (q482 P) .nil .nil))) (.node (q124 P) (.node (q191 P) (.node (q319 P) (.node (q578 P) .nil .nil) .nil) (.node (q450 P) .nil .nil)) (.node (q255 P) (.node (q386 P) .nil .nil) (.node (q514 P) .nil .nil)))))) (.node (q13 P) (.node (q21 P) (.node (q37 P) (.node (q72 P) (.node (q139 P) (.node (q267 P) (.node (q526 P) .nil .nil) .nil) (.node (q398 P) .nil .nil)) (.node (q203 P) (.node (q331 P) (.node (q590 P) .nil .nil) .nil) (.node (q462 P) .nil .nil))) (.node (q104 P) (.node (q171 P) (.node (q299 P) (.node (q558 P) .nil .nil) .nil) (.node (q430 P) .nil .nil)) (.node (q235 P) (.node (q363 P) .nil .nil) (.node (q494 P) .nil .nil)))) (.node (q56 P) (.node (q88 P) (.node (q155 P) (.node (q283 P) (.node (q542 P) .nil .nil) .nil) (.node (q414 P) .nil .nil)) (.node (q219 P) (.node (q347 P) (.node (q606 P) .nil .nil) .nil) (.node (q478 P) .nil .nil))) (.node (q137 P) (.node (q187 P) (.node (q315 P) (.node (q574 P) .nil .nil) .nil) (.node (q446 P) .nil .nil)) (.node (q251 P) (.node (q382 P) .nil .nil) (.node (q510 P) .nil .nil))))) (.node (q29 P) (.node (q48 P) (.node (q80 P) (.node (q147 P) (.node (q275 P) (.node (q534 P) .nil .nil) .nil) (.node (q406 P) .nil .nil)) (.node (q211 P) (.node (q339 P) (.node (q598 P) .nil .nil) .nil) (.node (q470 P) .nil .nil))) (.node (q112 P) (.node (q179 P) (.node (q307 P) (.node (q566 P) .nil .nil) .nil) (.node (q438 P) .nil .nil)) (.node (q243 P) (.node (q374 P) .nil .nil) (.node (q502 P) .nil .nil)))) (.node (q64 P) (.node (q96 P) (.node (q163 P) (.node (q291 P) (.node (q550 P) .nil .nil) .nil) (.node (q422 P) .nil .nil)) (.node (q227 P) (.node (q355 P) (.node (q614 P) .nil .nil) .nil) (.node (q486 P) .nil .nil))) (.node (q128 P) (.node (q195 P) (.node (q323 P) (.node (q582 P) .nil .nil) .nil) (.node (q454 P) .nil .nil)) (.node (q259 P) (.node (q390 P) .nil .nil) (.node (q518 P) .nil .nil)))))))) (.node (q38 P) (.node (q4 P) (.node (q8 P) (.node (q16 P) (.node (q32 P) (.node (q67 P) (.node (q131 P) (.node (q262 P) (.node (q521 P) .nil .nil) .nil) (.node (q393 P) .nil .nil)) (.node (q198 P) (.node (q326 P) (.node (q585 P) .nil .nil) .nil) (.node (q457 P) .nil .nil))) (.node (q99 P) (.node (q166 P) (.node (q294 P) (.node (q553 P) .nil .nil) .nil) (.node (q425 P) .nil .nil)) (.node (q230 P) (.node (q358 P) (.node (q617 P) .nil .nil) .nil) (.node (q489 P) .nil .nil)))) (.node (q51 P) (.node (q83 P) (.node (q150 P) (.node (q278 P) (.node (q537 P) .nil .nil) .nil) (.node (q409 P) .nil .nil)) (.node (q214 P) (.node (q342 P) (.node (q601 P) .nil .nil) .nil) (.node (q473 P) .nil .nil))) (.node (q115 P) (.node (q182 P) (.node (q310 P) (.node (q569 P) .nil .nil) .nil) (.node (q441 P) .nil .nil)) (.node (q246 P) (.node (q377 P) .nil .nil) (.node (q505 P) .nil .nil))))) (.node (q24 P) (.node (q43 P) (.node (q75 P) (.node (q142 P) (.node (q270 P) (.node (q529 P) .nil .nil) .nil) (.node (q401 P) .nil .nil)) (.node (q206 P) (.node (q334 P) (.node (q593 P) .nil .nil) .nil) (.node (q465 P) .nil .nil))) (.node (q107 P) (.node (q174 P) (.node (q302 P) (.node (q561 P) .nil .nil) .nil) (.node (q433 P) .nil .nil)) (.node (q238 P) (.node (q366 P) .nil .nil) (.node (q497 P) .nil .nil)))) (.node (q59 P) (.node (q91 P) (.node (q158 P) (.node (q286 P) (.node (q545 P) .nil .nil) .nil) (.node (q417 P) .nil .nil)) (.node (q222 P) (.node (q350 P) (.node (q609 P) .nil .nil) .nil) (.node (q481 P) .nil .nil))) (.node (q123 P) (.node (q190 P) (.node (q318 P) (.node (q577 P) .nil .nil) .nil) (.node (q449 P) .nil .nil)) (.node (q254 P) (.node (q385 P) .nil .nil) (.node (q513 P) .nil .nil)))))) (.node (q12 P) (.node (q20 P) (.node (q36 P) (.node (q71 P) (.node (q138 P) (.node (q266 P) (.node (q525 P) .nil .nil) .nil) (.node (q397 P) .nil .nil)) (.node (q202 P) (.node (q330 P) (.node (q589 P) .nil .nil) .nil) (.node (q461 P) .nil .nil))) (.node (q103 P) (.node (q170 P) (.node (q298 P) (.node (q557 P) .nil .nil) .nil) (.node (q429 P) .nil .nil)) (.node (q234 P) (.node (q362 P) .nil .nil) (.node (q493 P) .nil .nil)))) (.node (q55 P) (.node (q87 P) (.node (q154 P) (.node (q282 P) (.node (q541 P) .nil .nil) .nil) (.node (q413 P) .nil .nil)) (.node (q218 P) (.node (q346 P) (.node (q605 P) .nil .nil) .nil) (.node (q477 P) .nil .nil))) (.node (q119 P) (.node (q186 P) (.node (q314 P) (.node (q573 P) .nil .nil) .nil) (.node (q445 P) .nil .nil)) (.node (q250 P) (.node (q381 P) .nil .nil) (.node (q509 P) .nil .nil))))) (.node (q28 P) (.node (q47 P) (.node (q79 P) (.node (q146 P) (.node (q274 P) (.node (q533 P) .nil .nil) .nil) (.node (q405 P) .nil .nil)) (.node (q210 P) (.node (q338 P) (.node (q597 P) .nil .nil) .nil) (.node (q469 P) .nil .nil))) (.node (q111 P) (.node (q178 P) (.node (q306 P) (.node (q565 P) .nil .nil) .nil) (.node (q437 P) .nil .nil)) (.node (q242 P) (.node (q373 P) .nil .nil) (.node (q501 P) .nil .nil)))) (.node (q63 P) (.node (q95 P) (.node (q162 P) (.node (q290 P) (.node (q549 P) .nil .nil) .nil) (.node (q421 P) .nil .nil)) (.node (q226 P) (.node (q354 P) (.node (q613 P) .nil .nil) .nil) (.node (q485 P) .nil .nil))) (.node (q127 P) (.node (q194 P) (.node (q322 P) (.node (q581 P) .nil .nil) .nil) (.node (q453 P) .nil .nil)) (.node (q258 P) (.node (q389 P) .nil .nil) (.node (q517 P) .nil .nil))))))) (.node (q6 P) (.node (q10 P) (.node (q18 P) (.node (q34 P) (.node (q69 P) (.node (q133 P) (.node (q264 P) (.node (q523 P) .nil .nil) .nil) (.node (q395 P) .nil .nil)) (.node (q200 P) (.node (q328 P) (.node (q587 P) .nil .nil) .nil) (.node (q459 P) .nil .nil))) (.node (q101 P) (.node (q168 P) (.node (q296 P) (.node (q555 P) .nil .nil) .nil) (.node (q427 P) .nil .nil)) (.node (q232 P) (.node (q360 P) .nil .nil) (.node (q491 P) .nil .nil)))) (.node (q53 P) (.node (q85 P) (.node (q152 P) (.node (q280 P) (.node (q539 P) .nil .nil) .nil) (.node (q411 P) .nil .nil)) (.node (q216 P) (.node (q344 P) (.node (q603 P) .nil .nil) .nil) (.node (q475 P) .nil .nil))) (.node (q117 P) (.node (q184 P) (.node (q312 P) (.node (q571 P) .nil .nil) .nil) (.node (q443 P) .nil .nil)) (.node (q248 P) (.node (q379 P) .nil .nil) (.node (q507 P) .nil .nil))))) (.node (q26 P) (.node (q45 P) (.node (q77 P) (.node (q144 P) (.node (q272 P) (.node (q531 P) .nil .nil) .nil) (.node (q403 P) .nil .nil)) (.node (q208 P) (.node (q336 P) (.node (q595 P) .nil .nil) .nil) (.node (q467 P) .nil .nil))) (.node (q109 P) (.node (q176 P) (.node (q304 P) (.node (q563 P) .nil .nil) .nil) (.node (q435 P) .nil .nil)) (.node (q240 P) (.node (q371 P) .nil .nil) (.node (q499 P) .nil .nil)))) (.node (q61 P) (.node (q93 P) (.node (q160 P) (.node (q288 P) (.node (q547 P) .nil .nil) .nil) (.node (q419 P) .nil .nil)) (.node (q224 P) (.node (q352 P) (.node (q611 P) .nil .nil) .nil) (.node (q483 P) .nil .nil))) (.node (q125 P) (.node (q192 P) (.node (q320 P) (.node (q579 P) .nil .nil) .nil) (.node (q451 P) .nil .nil)) (.node (q256 P) (.node (q387 P) .nil .nil) (.node (q515 P) .nil .nil)))))) (.node (q14 P) (.node (q22 P) (.node (q41 P) (.node (q73 P) (.node (q140 P) (.node (q268 P) (.node (q527 P) .nil .nil) .nil) (.node (q399 P) .nil .nil)) (.node (q204 P) (.node (q332 P) (.node (q591 P) .nil .nil) .nil) (.node (q463 P) .nil .nil))) (.node (q105 P) (.node (q172 P) (.node (q300 P) (.node (q559 P) .nil .nil) .nil) (.node (q431 P) .nil .nil)) (.node (q236 P) (.node (q364 P) .nil .nil) (.node (q495 P) .nil .nil)))) (.node (q57 P) (.node (q89 P) (.node (q156 P) (.node (q284 P) (.node (q543 P) .nil .nil) .nil) (.node (q415 P) .nil .nil)) (.node (q220 P) (.node (q348 P) (.node (q607 P) .nil .nil) .nil) (.node (q479 P) .nil .nil))) (.node (q121 P) (.node (q188 P) (.node (q316 P) (.node (q575 P) .nil .nil) .nil) (.node (q447 P) .nil .nil)) (.node (q252 P) (.node (q383 P) .nil .nil) (.node (q511 P) .nil .nil))))) (.node (q30 P) (.node (q49 P) (.node (q81 P) (.node (q148 P) (.node (q276 P) (.node (q535 P) .nil .nil) .nil) (.node (q407 P) .nil .nil)) (.node (q212 P) (.node (q340 P) (.node (q599 P) .nil .nil) .nil) (.node (q471 P) .nil .nil))) (.node (q113 P) (.node (q180 P) (.node (q308 P) (.node (q567 P) .nil .nil) .nil) (.node (q439 P) .nil .nil)) (.node (q244 P) (.node (q375 P) .nil .nil) (.node (q503 P) .nil .nil)))) (.node (q65 P) (.node (q97 P) (.node (q164 P) (.node (q292 P) (.node (q551 P) .nil .nil) .nil) (.node (q423 P) .nil .nil)) (.node (q228 P) (.node (q356 P) (.node (q615 P) .nil .nil) .nil) (.node (q487 P) .nil .nil))) (.node (q129 P) (.node (q196 P) (.node (q324 P) (.node (q583 P) .nil .nil) .nil) (.node (q455 P) .nil .nil)) (.node (q260 P) (.node (q391 P) .nil .nil) (.node (q519 P) .nil .nil)))))))))
noncomputable def q618 (P : Params) : Obj := { cls := (.type PySem.W.SL.s14018661285674007319x4), data := (.dict ⟨[⟨PyData.keyHash P s0, (.str s0 165), (.str s402 1283)⟩, ⟨PyData.keyHash P s2, (.str s2 166), .none⟩, ⟨PyData.keyHash P s3, (.str s3 167), .none⟩, ⟨PyData.keyHash P s4, (.str s4 168), (.builtin PySem.W.SL.s7097527257260152453x26)⟩, ⟨PyData.keyHash P s5, (.str s5 169), .none⟩, ⟨PyData.keyHash P s179, (.str s179 170), (.ref 6)⟩, ⟨PyData.keyHash P s180, (.str s180 171), (.ref 4)⟩, ⟨PyData.keyHash P s181, (.str s181 173), (.str s182 172)⟩, ⟨PyData.keyHash P s183, (.str s183 174), .none⟩, ⟨PyData.keyHash P s161, (.str s161 275), (.ref 12)⟩, ⟨PyData.keyHash P s184, (.str s184 317), (.type PySem.W.SL.s5314052453082223887x17)⟩, ⟨PyData.keyHash P s244, (.str s244 330), (.ref 44)⟩, ⟨PyData.keyHash P s245, (.str s245 333), (.ref 45)⟩, ⟨PyData.keyHash P s246, (.str s246 345), (.ref 53)⟩, ⟨PyData.keyHash P s247, (.str s247 385), (.ref 58)⟩, ⟨PyData.keyHash P s248, (.str s248 395), (.ref 65)⟩, ⟨PyData.keyHash P s249, (.str s249 403), (.ref 72)⟩, ⟨PyData.keyHash P s250, (.str s250 425), (.ref 82)⟩, ⟨PyData.keyHash P s251, (.str s251 457), (.ref 102)⟩, ⟨PyData.keyHash P s252, (.str s252 475), (.ref 117)⟩, ⟨PyData.keyHash P s253, (.str s253 493), (.ref 129)⟩, ⟨PyData.keyHash P s271, (.str s271 755), (.ref 359)⟩, ⟨PyData.keyHash P s348, (.str s348 1042), (.ref 606)⟩, ⟨PyData.keyHash P s403, (.str s403 1053), (.ref 615)⟩, ⟨PyData.keyHash P s404, (.str s404 1062), (.ref 622)⟩, ⟨PyData.keyHash P s405, (.str s405 1072), (.ref 629)⟩, ⟨PyData.keyHash P s406, (.str s406 1079), (.ref 636)⟩, ⟨PyData.keyHash P s407, (.str s407 1090), (.ref 760)⟩, ⟨PyData.keyHash P s408, (.str s408 1091), (.ref 643)⟩, ⟨PyData.keyHash P s409, (.str s409 1101), (.ref 650)⟩, ⟨PyData.keyHash P s410, (.str s410 1242), (.ref 741)⟩, ⟨PyData.keyHash P s411, (.str s411 1252), (.ref 753)⟩, ⟨PyData.keyHash P s412, (.str s412 1260), (.ref 760)⟩, ⟨PyData.keyHash P s413, (.str s413 1262), (.ref 761)⟩, ⟨PyData.keyHash P s414, (.str s414 1269), (.ref 768)⟩, ⟨PyData.keyHash P s415, (.str s415 1282), (.ref 775)⟩, ⟨PyData.keyHash P s416, (.str s416 1290), (.ref 780)⟩, ⟨PyData.keyHash P s417, (.str s417 1296), (.ref 785)⟩, ⟨PyData.keyHash P s418, (.str s418 1304), (.ref 792)⟩, ⟨PyData.keyHash P s419, (.str s419 1313), (.ref 799)⟩, ⟨PyData.keyHash P s420, (.str s420 1322), (.ref 806)⟩, ⟨PyData.keyHash P s421, (.str s421 1328), (.ref 811)⟩]⟩ 42) }
noncomputable def q619 (P : Params) : Obj := { cls := .none, data := (.fields ⟨[(.int 3 0), (.int 0 0), (.ref 43), (.int 8 0), (.int 0 0), (.ref 52), (.int 22 0), (.int 0 0), (.ref 64), (.int 27 0), (.int 0 0), (.ref 71), (.int 34 0), (.int 0 0), (.ref 78), (.int 36 0), (.int 0 0), (.ref 91), (.int 43 0), (.int 0 0), (.ref 113), (.int 45 0), (.int 0 0), (.ref 125), (.int 47 0), (.int 0 0), (.ref 137), (.int 217 0), (.int 0 0), (.ref 367), (.int 423 0), (.int 0 0), (.ref 614), (.int 444 0), (.int 0 0), (.ref 621), (.int 449 0), (.int 0 0), (.ref 628), (.int 454 0), (.int 0 0), (.ref 635), (.int 457 0), (.int 0 0), (.ref 642), (.int 478 0), (.int 0 0), (.ref 649), (.int 487 0), (.int 0 0), (.ref 656), (.int 739 0), (.int 0 0), (.ref 752), (.int 747 0), (.int 0 0), (.ref 759), (.int 751 0), (.int 0 0), (.ref 767), (.int 758 0), (.int 0 0), (.ref 774), (.int 765 0), (.int 0 0), (.ref 779), (.int 767 0), (.int 0 0), (.ref 784), (.int 770 0), (.int 0 0), (.ref 791), (.int 774 0), (.int 0 0), (.ref 798), (.int 777 0), (.int 0 0), (.ref 805), (.int 782 0), (.int 0 0), (.ref 810)]⟩) }
noncomputable def q620 (P : Params) : Obj := { cls := (.type PySem.W.SL.s2766695959194262286x5), data := (.seq ⟨[]⟩ 0) }
noncomputable def q621 (P : Params) : Obj := { cls := .none, data := (.fields ⟨[]⟩) }
noncomputable def q622 (P : Params) : Obj := { cls := (.type PySem.W.SL.s2766695959194262286x5), data := (.seq ⟨[(.str s216 1048), (.str s422 1049), (.str s423 1050)]⟩ 0) }
noncomputable def q623 (P : Params) : Obj := { cls := (.type PySem.W.SL.s2766695959194262286x5), data := (.seq ⟨[]⟩ 0) }
noncomputable def q624 (P : Params) : Obj := fnY (xT 17) s403
noncomputable def q625 (P : Params) : Obj := { cls := (.type PySem.W.SL.s5856160107412720595x4), data := (.fields ⟨[(.str s403 1045), (.str s403 1046), (.str s182 1047), (.int 423 0), (.int 2 0), (.int 0 0), (.int 0 0), (.int 3 0), (.ref 609), (.bool true), (.int 318 0), (.ref 610), .none, (.ref 611), (.ref 612), (.ref 613), (.int 1051 0), (.int 423 0), (.str s182 1052)]⟩) }
noncomputable def q626 (P : Params) : Obj := fnX (xT 17) s403 .none (.str s424 1043) 614
noncomputable def q627 (P : Params) : Obj := { cls := (.type PySem.W.SL.s2766695959194262286x5), data := (.seq ⟨[]⟩ 0) }
noncomputable def q628 (P : Params) : Obj := { cls := .none, data := (.fields ⟨[]⟩) }
noncomputable def q629 (P : Params) : Obj := { cls := (.type PySem.W.SL.s2766695959194262286x5), data := (.seq ⟨[(.str s216 1057), (.str s422 1058), (.str s254 1059)]⟩ 0) }
noncomputable def q630 (P : Params) : Obj := { cls := (.type PySem.W.SL.s2766695959194262286x5), data := (.seq ⟨[]⟩ 0) }
noncomputable def q631 (P : Params) : Obj := fnY (xT 18) s404
noncomputable def q632 (P : Params) : Obj := { cls := (.type PySem.W.SL.s5856160107412720595x4), data := (.fields ⟨[(.str s404 1054), (.str s404 1055), (.str s182 1056), (.int 444 0), (.int 2 0), (.int 0 0), (.int 0 0), (.int 3 0), (.ref 616), (.bool true), (.int 318 0), (.ref 617), .none, (.ref 618), (.ref 619), (.ref 620), (.int 1060 0), (.int 444 0), (.str s182 1061)]⟩) }
noncomputable def q633 (P : Params) : Obj := fnX (xT 18) s404 .none (.str s424 1043) 621
noncomputable def q634 (P : Params) : Obj := { cls := (.type PySem.W.SL.s2766695959194262286x5), data := (.seq ⟨[]⟩ 0) }
noncomputable def q635 (P : Params) : Obj := { cls := .none, data := (.fields ⟨[]⟩) }
noncomputable def q636 (P : Params) : Obj := { cls := (.type PySem.W.SL.s2766695959194262286x5), data := (.seq ⟨[(.str s425 1066), (.str s268 1067), (.str s361 1068), (.str s254 1069)]⟩ 0) }
noncomputable def q637 (P : Params) : Obj := { cls := (.type PySem.W.SL.s2766695959194262286x5), data := (.seq ⟨[]⟩ 0) }
noncomputable def q638 (P : Params) : Obj := fnY (xT 19) s405
noncomputable def q639 (P : Params) : Obj := { cls := (.type PySem.W.SL.s5856160107412720595x4), data := (.fields ⟨[(.str s405 1063), (.str s405 1064), (.str s182 1065), (.int 449 0), (.int 1 0), (.int 0 0), (.int 0 0), (.int 7 0), (.ref 623), (.bool true), (.int 318 0), (.ref 624), .none, (.ref 625), (.ref 626), (.ref 627), (.int 1070 0), (.int 449 0), (.str s182 1071)]⟩) }
noncomputable def q640 (P : Params) : Obj := fnX (xT 19) s405 .none (.str s424 1043) 628
noncomputable def q641 (P : Params) : Obj := { cls := (.type PySem.W.SL.s2766695959194262286x5), data := (.seq ⟨[]⟩ 0) }
noncomputable def q642 (P : Params) : Obj := { cls := .none, data := (.fields ⟨[]⟩) }
noncomputable def q643 (P : Params) : Obj := { cls := (.type PySem.W.SL.s2766695959194262286x5), data := (.seq ⟨[(.str s361 1076)]⟩ 0) }
noncomputable def q644 (P : Params) : Obj := { cls := (.type PySem.W.SL.s2766695959194262286x5), data := (.seq ⟨[]⟩ 0) }
noncomputable def q645 (P : Params) : Obj := fnY (xT 20) s406
noncomputable def q646 (P : Params) : Obj := { cls := (.type PySem.W.SL.s5856160107412720595x4), data := (.fields ⟨[(.str s406 1073), (.str s406 1074), (.str s182 1075), (.int 454 0), (.int 1 0), (.int 0 0), (.int 0 0), (.int 3 0), (.ref 630), (.bool true), (.int 318 0), (.ref 631), .none, (.ref 632), (.ref 633), (.ref 634), (.int 1077 0), (.int 454 0), (.str s182 1078)]⟩) }
noncomputable def q647 (P : Params) : Obj := fnX (xT 20) s406 .none (.str s424 1043) 635
noncomputable def q648 (P : Params) : Obj := { cls := (.type PySem.W.SL.s2766695959194262286x5), data := (.seq ⟨[]⟩ 0) }
noncomputable def q649 (P : Params) : Obj := { cls := .none, data := (.fields ⟨[]⟩) }
noncomputable def q650 (P : Params) : Obj := { cls := (.type PySem.W.SL.s2766695959194262286x5), data := (.seq ⟨[(.str s426 1083), (.str s427 1084), (.str s341 1085), (.str s428 1086), (.str s429 1087)]⟩ 0) }
noncomputable def q651 (P : Params) : Obj := { cls := (.type PySem.W.SL.s2766695959194262286x5), data := (.seq ⟨[]⟩ 0) }
noncomputable def q652 (P : Params) : Obj := fnY (xT 21) s407
noncomputable def q653 (P : Params) : Obj := { cls := (.type PySem.W.SL.s5856160107412720595x4), data := (.fields ⟨[(.str s407 1080), (.str s407 1081), (.str s182 1082), (.int 457 0), (.int 1 0), (.int 0 0), (.int 0 0), (.int 7 0), (.ref 637), (.bool true), (.int 318 0), (.ref 638), .none, (.ref 639), (.ref 640), (.ref 641), (.int 1088 0), (.int 457 0), (.str s182 1089)]⟩) }
noncomputable def q654 (P : Params) : Obj := fnX (xT 21) s407 .none (.str s424 1043) 642
noncomputable def q655 (P : Params) : Obj := { cls := (.type PySem.W.SL.s2766695959194262286x5), data := (.seq ⟨[]⟩ 0) }
noncomputable def q656 (P : Params) : Obj := { cls := .none, data := (.fields ⟨[]⟩) }
noncomputable def q657 (P : Params) : Obj := { cls := (.type PySem.W.SL.s2766695959194262286x5), data := (.seq ⟨[(.str s427 1095), (.str s428 1096), (.str s309 1097), (.str s430 1098)]⟩ 0) }
noncomputable def q658 (P : Params) : Obj := { cls := (.type PySem.W.SL.s2766695959194262286x5), data := (.seq ⟨[]⟩ 0) }
noncomputable def q659 (P : Params) : Obj := fnY (xT 23) s409
noncomputable def q660 (P : Params) : Obj := { cls := (.type PySem.W.SL.s5856160107412720595x4), data := (.fields ⟨[(.str s409 1092), (.str s409 1093), (.str s182 1094), (.int 478 0), (.int 1 0), (.int 0 0), (.int 0 0), (.int 3 0), (.ref 644), (.bool true), (.int 318 0), (.ref 645), .none, (.ref 646), (.ref 647), (.ref 648), (.int 1099 0), (.int 478 0), (.str s182 1100)]⟩) }
noncomputable def q661 (P : Params) : Obj := fnX (xT 23) s409 .none (.str s424 1043) 649
noncomputable def q662 (P : Params) : Obj := { cls := (.type PySem.W.SL.s2766695959194262286x5), data := (.seq ⟨[]⟩ 0) }
noncomputable def q663 (P : Params) : Obj := { cls := (.type PySem.W.SL.s11030030927630378310x26), data := (.fields ⟨[(.builtin PySem.W.SL.s10062305145149207511x16), (.type PySem.W.SL.s17162191345867700912x4)]⟩) }
noncomputable def q664 (P : Params) : Obj := { cls := (.type PySem.W.SL.s14018661285674007319x4), data := (.dict ⟨[⟨PyData.keyHash P s198, (.str s198 1111), (.str s431 1102)⟩, ⟨PyData.keyHash P s265, (.str s265 1113), (.str s410 1112)⟩, ⟨PyData.keyHash P s200, (.str s200 1115), (.int 487 1114)⟩, ⟨PyData.keyHash P s225, (.str s225 1127), (.ref 665)⟩, ⟨PyData.keyHash P s432, (.str s432 1135), (.ref 673)⟩, ⟨PyData.keyHash P s433, (.str s433 1143), (.ref 680)⟩, ⟨PyData.keyHash P s434, (.str s434 1152), (.ref 688)⟩, ⟨PyData.keyHash P s435, (.str s435 1159), (.ref 695)⟩, ⟨PyData.keyHash P s436, (.str s436 1171), (.ref 702)⟩, ⟨PyData.keyHash P s437, (.str s437 1182), (.ref 709)⟩, ⟨PyData.keyHash P s438, (.str s438 1190), (.ref 716)⟩, ⟨PyData.keyHash P s439, (.str s439 1199), (.ref 724)⟩, ⟨PyData.keyHash P s297, (.str s297 1206), (.ref 731)⟩, ⟨PyData.keyHash P s298, (.str s298 1214), (.ref 738)⟩, ⟨PyData.keyHash P s210, (.str s210 1235), (.ref 739)⟩]⟩ 15) }
noncomputable def q665 (P : Params) : Obj := { cls := (.type PySem.W.SL.s2766695959194262286x5), data := (.seq ⟨[]⟩ 0) }
noncomputable def q666 (P : Params) : Obj := { cls := .none, data := (.fields ⟨[(.int 489 0), (.int 4 0), (.ref 664), (.int 531 0), (.int 4 0), (.ref 671), (.int 534 0), (.int 4 0), (.ref 679), (.int 537 0), (.int 4 0), (.ref 687), (.int 550 0), (.int 4 0), (.ref 694), (.int 557 0), (.int 4 0), (.ref 701), (.int 584 0), (.int 4 0), (.ref 708), (.int 721 0), (.int 4 0), (.ref 715), (.int 728 0), (.int 4 0), (.ref 723), (.int 731 0), (.int 4 0), (.ref 730), (.int 734 0), (.int 4 0), (.ref 737)]⟩) }
noncomputable def q667 (P : Params) : Obj := { cls := (.type PySem.W.SL.s5856160107412720595x4), data := (.fields ⟨[(.str s410 1106), (.str s410 1107), (.str s182 1108), (.int 487 0), (.int 0 0), (.int 0 0), (.int 0 0), (.int 0 0), (.ref 654), (.bool false), (.int 318 0), (.ref 655), .none, .none, .none, .none, (.int 1109 0), (.int 487 0), (.str s182 1110)]⟩) }
noncomputable def q668 (P : Params) : Obj := { cls := (.type PySem.W.SL.s658472552662922059x5), slots := ⟨[some (.ref 656), some (.ref 3), some (.ref 653), none, some (.str s431 1102), none, some (.ref 0)]⟩ }
noncomputable def q669 (P : Params) : Obj := { cls := (.type PySem.W.SL.s2766695959194262286x5), data := (.seq ⟨[.none, .none, (.bool false), (.bool false)]⟩ 0) }
noncomputable def q670 (P : Params) : Obj := { cls := (.type PySem.W.SL.s2766695959194262286x5), data := (.seq ⟨[]⟩ 0) }
noncomputable def q671 (P : Params) : Obj := { cls := .none, data := (.fields ⟨[]⟩) }
noncomputable def q672 (P : Params) : Obj := { cls := (.type PySem.W.SL.s2766695959194262286x5), data := (.seq ⟨[(.str s301 1119), (.str s440 1120), (.str s441 1121), (.str s442 1122), (.str s432 1123), (.str s423 1124)]⟩ 0) }
noncomputable def q673 (P : Params) : Obj := { cls := (.type PySem.W.SL.s2766695959194262286x5), data := (.seq ⟨[]⟩ 0) }
noncomputable def q674 (P : Params) : Obj := fnY (xC 25 0) s443
noncomputable def q675 (P : Params) : Obj := { cls := (.type PySem.W.SL.s5856160107412720595x4), data := (.fields ⟨[(.str s225 1116), (.str s443 1117), (.str s182 1118), (.int 489 0), (.int 5 0), (.int 0 0), (.int 0 0), (.int 3 0), (.ref 659), (.bool true), (.int 318 0), (.ref 660), .none, (.ref 661), (.ref 662), (.ref 663), (.int 1125 0), (.int 489 0), (.str s182 1126)]⟩) }
noncomputable def q676 (P : Params) : Obj := fnX (xC 25 0) s443 (.ref 658) (.str s431 1102) 664
noncomputable def q677 (P : Params) : Obj := { cls := (.type PySem.W.SL.s2766695959194262286x5), data := (.seq ⟨[]⟩ 0) }
noncomputable def q678 (P : Params) : Obj := { cls := .none, data := (.fields ⟨[]⟩) }
noncomputable def q679 (P : Params) : Obj := { cls := (.type PySem.W.SL.s2766695959194262286x5), data := (.seq ⟨[(.str s301 1131)]⟩ 0) }
noncomputable def q680 (P : Params) : Obj := { cls := (.type PySem.W.SL.s2766695959194262286x5), data := (.seq ⟨[]⟩ 0) }
noncomputable def q681 (P : Params) : Obj := fnY (xC 25 1) s444
noncomputable def q682 (P : Params) : Obj := { cls := (.type PySem.W.SL.s5856160107412720595x4), data := (.fields ⟨[(.str s432 1128), (.str s444 1129), (.str s182 1130), (.int 530 0), (.int 1 0), (.int 0 0), (.int 0 0), (.int 3 0), (.ref 666), (.bool true), (.int 318 0), (.ref 667), .none, (.ref 668), (.ref 669), (.ref 670), (.int 1132 0), (.int 530 0), (.str s182 1133)]⟩) }
noncomputable def q683 (P : Params) : Obj := fnX (xC 25 1) s444 .none (.str s431 1102) 671
noncomputable def q684 (P : Params) : Obj := { cls := (.type PySem.W.SL.s8101838861749082086x8), data := (.fields ⟨[(.ref 672), .none, .none, .none, (.str s432 1135), (.bool false)]⟩) }
noncomputable def q685 (P : Params) : Obj := { cls := (.type PySem.W.SL.s2766695959194262286x5), data := (.seq ⟨[]⟩ 0) }
noncomputable def q686 (P : Params) : Obj := { cls := .none, data := (.fields ⟨[]⟩) }
noncomputable def q687 (P : Params) : Obj := { cls := (.type PySem.W.SL.s2766695959194262286x5), data := (.seq ⟨[(.str s301 1139), (.str s445 1140)]⟩ 0) }
noncomputable def q688 (P : Params) : Obj := { cls := (.type PySem.W.SL.s2766695959194262286x5), data := (.seq ⟨[]⟩ 0) }
noncomputable def q689 (P : Params) : Obj := fnY (xC 25 2) s446
noncomputable def q690 (P : Params) : Obj := { cls := (.type PySem.W.SL.s5856160107412720595x4), data := (.fields ⟨[(.str s433 1136), (.str s446 1137), (.str s182 1138), (.int 534 0), (.int 2 0), (.int 0 0), (.int 0 0), (.int 3 0), (.ref 674), (.bool true), (.int 318 0), (.ref 675), .none, (.ref 676), (.ref 677), (.ref 678), (.int 1141 0), (.int 534 0), (.str s182 1142)]⟩) }
noncomputable def q691 (P : Params) : Obj := fnX (xC 25 2) s446 .none (.str s431 1102) 679
noncomputable def q692 (P : Params) : Obj := { cls := (.type PySem.W.SL.s2766695959194262286x5), data := (.seq ⟨[.none]⟩ 0) }
noncomputable def q693 (P : Params) : Obj := { cls := (.type PySem.W.SL.s2766695959194262286x5), data := (.seq ⟨[]⟩ 0) }
noncomputable def q694 (P : Params) : Obj := { cls := .none, data := (.fields ⟨[]⟩) }
noncomputable def q695 (P : Params) : Obj := { cls := (.type PySem.W.SL.s2766695959194262286x5), data := (.seq ⟨[(.str s301 1147), (.str s447 1148), (.str s448 1149)]⟩ 0) }
noncomputable def q696 (P : Params) : Obj := { cls := (.type PySem.W.SL.s2766695959194262286x5), data := (.seq ⟨[]⟩ 0) }
noncomputable def q697 (P : Params) : Obj := fnY (xC 25 3) s449
noncomputable def q698 (P : Params) : Obj := { cls := (.type PySem.W.SL.s5856160107412720595x4), data := (.fields ⟨[(.str s434 1144), (.str s449 1145), (.str s182 1146), (.int 537 0), (.int 3 0), (.int 0 0), (.int 0 0), (.int 3 0), (.ref 682), (.bool true), (.int 318 0), (.ref 683), .none, (.ref 684), (.ref 685), (.ref 686), (.int 1150 0), (.int 537 0), (.str s182 1151)]⟩) }
noncomputable def q699 (P : Params) : Obj := fnX (xC 25 3) s449 (.ref 681) (.str s431 1102) 687
noncomputable def q700 (P : Params) : Obj := { cls := (.type PySem.W.SL.s2766695959194262286x5), data := (.seq ⟨[]⟩ 0) }
noncomputable def q701 (P : Params) : Obj := { cls := .none, data := (.fields ⟨[]⟩) }
noncomputable def q702 (P : Params) : Obj := { cls := (.type PySem.W.SL.s2766695959194262286x5), data := (.seq ⟨[(.str s301 1156)]⟩ 0) }
noncomputable def q703 (P : Params) : Obj := { cls := (.type PySem.W.SL.s2766695959194262286x5), data := (.seq ⟨[]⟩ 0) }
noncomputable def q704 (P : Params) : Obj := fnY (xC 25 4) s450
noncomputable def q705 (P : Params) : Obj := { cls := (.type PySem.W.SL.s5856160107412720595x4), data := (.fields ⟨[(.str s435 1153), (.str s450 1154), (.str s182 1155), (.int 550 0), (.int 1 0), (.int 0 0), (.int 0 0), (.int 3 0), (.ref 689), (.bool true), (.int 318 0), (.ref 690), .none, (.ref 691), (.ref 692), (.ref 693), (.int 1157 0), (.int 550 0), (.str s182 1158)]⟩) }
noncomputable def q706 (P : Params) : Obj := fnX (xC 25 4) s450 .none (.str s431 1102) 694
noncomputable def q707 (P : Params) : Obj := { cls := (.type PySem.W.SL.s2766695959194262286x5), data := (.seq ⟨[]⟩ 0) }
noncomputable def q708 (P : Params) : Obj := { cls := .none, data := (.fields ⟨[]⟩) }
noncomputable def q709 (P : Params) : Obj := { cls := (.type PySem.W.SL.s2766695959194262286x5), data := (.seq ⟨[(.str s301 1163), (.str s445 1164), (.str s451 1165), (.str s452 1166), (.str s448 1167), (.str s447 1168)]⟩ 0) }
noncomputable def q710 (P : Params) : Obj := { cls := (.type PySem.W.SL.s2766695959194262286x5), data := (.seq ⟨[]⟩ 0) }
noncomputable def q711 (P : Params) : Obj := fnY (xC 25 5) s453
noncomputable def q712 (P : Params) : Obj := { cls := (.type PySem.W.SL.s5856160107412720595x4), data := (.fields ⟨[(.str s436 1160), (.str s453 1161), (.str s182 1162), (.int 557 0), (.int 1 0), (.int 0 0), (.int 0 0), (.int 3 0), (.ref 696), (.bool true), (.int 318 0), (.ref 697), .none, (.ref 698), (.ref 699), (.ref 700), (.int 1169 0), (.int 557 0), (.str s182 1170)]⟩) }
noncomputable def q713 (P : Params) : Obj := fnX (xC 25 5) s453 .none (.str s431 1102) 701
noncomputable def q714 (P : Params) : Obj := { cls := (.type PySem.W.SL.s2766695959194262286x5), data := (.seq ⟨[]⟩ 0) }
noncomputable def q715 (P : Params) : Obj := { cls := .none, data := (.fields ⟨[]⟩) }
noncomputable def q716 (P : Params) : Obj := { cls := (.type PySem.W.SL.s2766695959194262286x5), data := (.seq ⟨[(.str s301 1175), (.str s454 1176), (.str s455 1177), (.str s456 1178), (.str s457 1179)]⟩ 0) }
noncomputable def q717 (P : Params) : Obj := { cls := (.type PySem.W.SL.s2766695959194262286x5), data := (.seq ⟨[]⟩ 0) }
noncomputable def q718 (P : Params) : Obj := fnY (xC 25 6) s458
noncomputable def q719 (P : Params) : Obj := { cls := (.type PySem.W.SL.s5856160107412720595x4), data := (.fields ⟨[(.str s437 1172), (.str s458 1173), (.str s182 1174), (.int 584 0), (.int 1 0), (.int 0 0), (.int 0 0), (.int 3 0), (.ref 703), (.bool true), (.int 318 0), (.ref 704), .none, (.ref 705), (.ref 706), (.ref 707), (.int 1180 0), (.int 584 0), (.str s182 1181)]⟩) }
noncomputable def q720 (P : Params) : Obj := fnX (xC 25 6) s458 .none (.str s431 1102) 708
noncomputable def q721 (P : Params) : Obj := { cls := (.type PySem.W.SL.s2766695959194262286x5), data := (.seq ⟨[]⟩ 0) }
noncomputable def q722 (P : Params) : Obj := { cls := .none, data := (.fields ⟨[]⟩) }
noncomputable def q723 (P : Params) : Obj := { cls := (.type PySem.W.SL.s2766695959194262286x5), data := (.seq ⟨[(.str s301 1186), (.str s448 1187)]⟩ 0) }
noncomputable def q724 (P : Params) : Obj := { cls := (.type PySem.W.SL.s2766695959194262286x5), data := (.seq ⟨[]⟩ 0) }
noncomputable def q725 (P : Params) : Obj := fnY (xC 25 7) s459
noncomputable def q726 (P : Params) : Obj := { cls := (.type PySem.W.SL.s5856160107412720595x4), data := (.fields ⟨[(.str s438 1183), (.str s459 1184), (.str s182 1185), (.int 721 0), (.int 2 0), (.int 0 0), (.int 0 0), (.int 3 0), (.ref 710), (.bool true), (.int 318 0), (.ref 711), .none, (.ref 712), (.ref 713), (.ref 714), (.int 1188 0), (.int 721 0), (.str s182 1189)]⟩) }
noncomputable def q727 (P : Params) : Obj := fnX (xC 25 7) s459 .none (.str s431 1102) 715
noncomputable def q728 (P : Params) : Obj := { cls := (.type PySem.W.SL.s2766695959194262286x5), data := (.seq ⟨[.none, .none]⟩ 0) }
noncomputable def q729 (P : Params) : Obj := { cls := (.type PySem.W.SL.s2766695959194262286x5), data := (.seq ⟨[]⟩ 0) }
noncomputable def q730 (P : Params) : Obj := { cls := .none, data := (.fields ⟨[]⟩) }
noncomputable def q731 (P : Params) : Obj := { cls := (.type PySem.W.SL.s2766695959194262286x5), data := (.seq ⟨[(.str s301 1194), (.str s441 1195), (.str s460 1196)]⟩ 0) }
noncomputable def q732 (P : Params) : Obj := { cls := (.type PySem.W.SL.s2766695959194262286x5), data := (.seq ⟨[]⟩ 0) }
noncomputable def q733 (P : Params) : Obj := fnY (xC 25 8) s461
noncomputable def q734 (P : Params) : Obj := { cls := (.type PySem.W.SL.s5856160107412720595x4), data := (.fields ⟨[(.str s439 1191), (.str s461 1192), (.str s182 1193), (.int 728 0), (.int 3 0), (.int 0 0), (.int 0 0), (.int 3 0), (.ref 718), (.bool true), (.int 318 0), (.ref 719), .none, (.ref 720), (.ref 721), (.ref 722), (.int 1197 0), (.int 728 0), (.str s182 1198)]⟩) }
noncomputable def q735 (P : Params) : Obj := fnX (xC 25 8) s461 (.ref 717) (.str s431 1102) 723
noncomputable def q736 (P : Params) : Obj := { cls := (.type PySem.W.SL.s2766695959194262286x5), data := (.seq ⟨[]⟩ 0) }
noncomputable def q737 (P : Params) : Obj := { cls := .none, data := (.fields ⟨[]⟩) }
noncomputable def q738 (P : Params) : Obj := { cls := (.type PySem.W.SL.s2766695959194262286x5), data := (.seq ⟨[(.str s301 1203)]⟩ 0) }
noncomputable def q739 (P : Params) : Obj := { cls := (.type PySem.W.SL.s2766695959194262286x5), data := (.seq ⟨[]⟩ 0) }
noncomputable def q740 (P : Params) : Obj := fnY (xC 25 9) s462
noncomputable def q741 (P : Params) : Obj := { cls := (.type PySem.W.SL.s5856160107412720595x4), data := (.fields ⟨[(.str s297 1200), (.str s462 1201), (.str s182 1202), (.int 731 0), (.int 1 0), (.int 0 0), (.int 0 0), (.int 3 0), (.ref 725), (.bool true), (.int 318 0), (.ref 726), .none, (.ref 727), (.ref 728), (.ref 729), (.int 1204 0), (.int 731 0), (.str s182 1205)]⟩) }
noncomputable def q742 (P : Params) : Obj := fnX (xC 25 9) s462 .none (.str s431 1102) 730
noncomputable def q743 (P : Params) : Obj := { cls := (.type PySem.W.SL.s2766695959194262286x5), data := (.seq ⟨[]⟩ 0) }
noncomputable def q744 (P : Params) : Obj := { cls := .none, data := (.fields ⟨[]⟩) }
noncomputable def q745 (P : Params) : Obj := { cls := (.type PySem.W.SL.s2766695959194262286x5), data := (.seq ⟨[(.str s301 1210), (.str s463 1211)]⟩ 0) }
noncomputable def q746 (P : Params) : Obj := { cls := (.type PySem.W.SL.s2766695959194262286x5), data := (.seq ⟨[]⟩ 0) }
noncomputable def q747 (P : Params) : Obj := fnY (xC 25 10) s464
noncomputable def q748 (P : Params) : Obj := { cls := (.type PySem.W.SL.s5856160107412720595x4), data := (.fields ⟨[(.str s298 1207), (.str s464 1208), (.str s182 1209), (.int 734 0), (.int 1 0), (.int 0 0), (.int 0 0), (.int 3 0), (.ref 732), (.bool true), (.int 318 0), (.ref 733), .none, (.ref 734), (.ref 735), (.ref 736), (.int 1212 0), (.int 734 0), (.str s182 1213)]⟩) }
noncomputable def q749 (P : Params) : Obj := fnX (xC 25 10) s464 .none (.str s431 1102) 737
noncomputable def q750 (P : Params) : Obj := { cls := (.type PySem.W.SL.s2766695959194262286x5), data := (.seq ⟨[(.str s465 1215), (.str s466 1216), (.str s467 1217), (.str s468 1218), (.str s469 1219), (.str s470 1220), (.str s471 1221), (.str s472 1222), (.str s441 1223), (.str s440 1224), (.str s460 1225), (.str s442 1226), (.str s473 1227), (.str s474 1228), (.str s475 1229), (.str s476 1230), (.str s463 1231), (.str s477 1232), (.str s478 1233), (.str s479 1234)]⟩ 0) }
noncomputable def q751 (P : Params) : Obj := { cls := (.type PySem.W.SL.s14018661285674007319x4), data := (.dict ⟨[⟨PyData.keyHash P s198, (.str s198 1111), (.str s431 1102)⟩, ⟨PyData.keyHash P s200, (.str s200 1115), (.int 487 1114)⟩, ⟨PyData.keyHash P s225, (.str s225 1127), (.ref 665)⟩, ⟨PyData.keyHash P s432, (.str s432 1135), (.ref 673)⟩, ⟨PyData.keyHash P s433, (.str s433 1143), (.ref 680)⟩, ⟨PyData.keyHash P s434, (.str s434 1152), (.ref 688)⟩, ⟨PyData.keyHash P s435, (.str s435 1159), (.ref 695)⟩, ⟨PyData.keyHash P s436, (.str s436 1171), (.ref 702)⟩, ⟨PyData.keyHash P s437, (.str s437 1182), (.ref 709)⟩, ⟨PyData.keyHash P s438, (.str s438 1190), (.ref 716)⟩, ⟨PyData.keyHash P s439, (.str s439 1199), (.ref 724)⟩, ⟨PyData.keyHash P s297, (.str s297 1206), (.ref 731)⟩, ⟨PyData.keyHash P s298, (.str s298 1214), (.ref 738)⟩, ⟨PyData.keyHash P s210, (.str s210 1235), (.ref 739)⟩, ⟨PyData.keyHash P s211, (.str s211 1237), (.ref 742)⟩, ⟨PyData.keyHash P s212, (.str s212 1239), (.ref 743)⟩, ⟨PyData.keyHash P s2, (.str s2 1240), .none⟩]⟩ 4) }
noncomputable def q752 (P : Params) : Obj := { cls := (.type PySem.W.SL.s17162191345867700912x4), data := (.cls { name := s410, bases := [(.type PySem.W.SL.s2742458400755230247x6)], mro := [(.ref 741), (.type PySem.W.SL.s2742458400755230247x6)], ns := 740, qualname := s410, hasDict := true, slotNames := [], subclasses := [], abstract := false, collection := none, hasDel := false }), slots := ⟨[none, none, some (.str s410 1104), some (.str s410 1112), some (.builtin PySem.W.SL.s11443829558043349243x14), some (.bool true)]⟩ }
noncomputable def q753 (P : Params) : Obj := { cls := (.type PySem.W.SL.s14755015743595814543x17), data := (.fields ⟨[(.str s211 1236), (.ref 741), (.builtin PySem.W.SL.s6511155373996960695x17), (.builtin PySem.W.SL.s12411053484034534018x21)]⟩) }
noncomputable def q754 (P : Params) : Obj := { cls := (.type PySem.W.SL.s14755015743595814543x17), data := (.fields ⟨[(.str s212 1238), (.ref 741), (.builtin PySem.W.SL.s10220274742760427390x26), .none]⟩) }
noncomputable def q755 (P : Params) : Obj := { cls := (.type PySem.W.SL.s4290257624100764138x5), data := (.fields ⟨[(.ref 741), (.ref 741), (.ref 741)]⟩) }
noncomputable def q756 (P : Params) : Obj := { cls := (.type PySem.W.SL.s11030030927630378310x26), data := (.fields ⟨[(.builtin PySem.W.SL.s4860613602091757760x24), (.ref 741)]⟩) }
noncomputable def q757 (P : Params) : Obj := { cls := (.type PySem.W.SL.s2766695959194262286x5), data := (.seq ⟨[(.bool false), (.bool true)]⟩ 0) }
noncomputable def q758 (P : Params) : Obj := { cls := (.type PySem.W.SL.s2766695959194262286x5), data := (.seq ⟨[]⟩ 0) }
noncomputable def q759 (P : Params) : Obj := { cls := .none, data := (.fields ⟨[]⟩) }
noncomputable def q760 (P : Params) : Obj := { cls := (.type PySem.W.SL.s2766695959194262286x5), data := (.seq ⟨[(.str s361 1246), (.str s480 1247), (.str s442 1248), (.str s481 1249)]⟩ 0) }
noncomputable def q761 (P : Params) : Obj := { cls := (.type PySem.W.SL.s2766695959194262286x5), data := (.seq ⟨[]⟩ 0) }
noncomputable def q762 (P : Params) : Obj := fnY (xT 26) s411
noncomputable def q763 (P : Params) : Obj := { cls := (.type PySem.W.SL.s5856160107412720595x4), data := (.fields ⟨[(.str s411 1243), (.str s411 1244), (.str s182 1245), (.int 739 0), (.int 3 0), (.int 0 0), (.int 0 0), (.int 3 0), (.ref 747), (.bool true), (.int 318 0), (.ref 748), .none, (.ref 749), (.ref 750), (.ref 751), (.int 1250 0), (.int 739 0), (.str s182 1251)]⟩) }
noncomputable def q764 (P : Params) : Obj := fnX (xT 26) s411 (.ref 746) (.str s431 1102) 752
noncomputable def q765 (P : Params) : Obj := { cls := (.type PySem.W.SL.s2766695959194262286x5), data := (.seq ⟨[]⟩ 0) }
noncomputable def q766 (P : Params) : Obj := { cls := .none, data := (.fields ⟨[]⟩) }
noncomputable def q767 (P : Params) : Obj := { cls := (.type PySem.W.SL.s2766695959194262286x5), data := (.seq ⟨[(.str s482 1256)]⟩ 0) }
noncomputable def q768 (P : Params) : Obj := { cls := (.type PySem.W.SL.s2766695959194262286x5), data := (.seq ⟨[]⟩ 0) }
noncomputable def q769 (P : Params) : Obj := fnY (xT 27) s407
noncomputable def q770 (P : Params) : Obj := { cls := (.type PySem.W.SL.s5856160107412720595x4), data := (.fields ⟨[(.str s407 1253), (.str s407 1254), (.str s182 1255), (.int 747 0), (.int 1 0), (.int 0 0), (.int 0 0), (.int 3 0), (.ref 754), (.bool true), (.int 318 0), (.ref 755), .none, (.ref 756), (.ref 757), (.ref 758), (.int 1257 0), (.int 747 0), (.str s182 1258)]⟩) }
noncomputable def q771 (P : Params) : Obj := fnX (xT 27) s407 .none (.str s431 1102) 759
noncomputable def q772 (P : Params) : Obj := { cls := (.type PySem.W.SL.s11030030927630378310x26), data := (.fields ⟨[(.builtin PySem.W.SL.s9858327723941210770x17), (.ref 58)]⟩) }
noncomputable def q773 (P : Params) : Obj := { cls := (.type PySem.W.SL.s2766695959194262286x5), data := (.seq ⟨[]⟩ 0) }
noncomputable def q774 (P : Params) : Obj := { cls := .none, data := (.fields ⟨[]⟩) }
noncomputable def q775 (P : Params) : Obj := { cls := (.type PySem.W.SL.s2766695959194262286x5), data := (.seq ⟨[(.str s361 1266)]⟩ 0) }
noncomputable def q776 (P : Params) : Obj := { cls := (.type PySem.W.SL.s2766695959194262286x5), data := (.seq ⟨[]⟩ 0) }
noncomputable def q777 (P : Params) : Obj := fnY (xT 30) s414
noncomputable def q778 (P : Params) : Obj := { cls := (.type PySem.W.SL.s5856160107412720595x4), data := (.fields ⟨[(.str s414 1263), (.str s414 1264), (.str s182 1265), (.int 751 0), (.int 1 0), (.int 0 0), (.int 0 0), (.int 3 0), (.ref 762), (.bool true), (.int 318 0), (.ref 763), .none, (.ref 764), (.ref 765), (.ref 766), (.int 1267 0), (.int 751 0), (.str s182 1268)]⟩) }
noncomputable def q779 (P : Params) : Obj := fnX (xT 30) s414 .none (.str s431 1102) 767
noncomputable def q780 (P : Params) : Obj := { cls := (.type PySem.W.SL.s2766695959194262286x5), data := (.seq ⟨[]⟩ 0) }
noncomputable def q781 (P : Params) : Obj := { cls := .none, data := (.fields ⟨[]⟩) }
noncomputable def q782 (P : Params) : Obj := { cls := (.type PySem.W.SL.s2766695959194262286x5), data := (.seq ⟨[(.str s483 1275), (.str s484 1276), (.str s485 1277), (.str s309 1278), (.str s368 1279)]⟩ 0) }
noncomputable def q783 (P : Params) : Obj := { cls := (.type PySem.W.SL.s2766695959194262286x5), data := (.seq ⟨[]⟩ 0) }
noncomputable def q784 (P : Params) : Obj := fnY (xT 32) s415
noncomputable def q785 (P : Params) : Obj := { cls := (.type PySem.W.SL.s5856160107412720595x4), data := (.fields ⟨[(.str s415 1272), (.str s415 1273), (.str s182 1274), (.int 758 0), (.int 2 0), (.int 0 0), (.int 0 0), (.int 3 0), (.ref 769), (.bool true), (.int 318 0), (.ref 770), .none, (.ref 771), (.ref 772), (.ref 773), (.int 1280 0), (.int 758 0), (.str s182 1281)]⟩) }
noncomputable def q786 (P : Params) : Obj := fnX (xT 32) s415 .none (.str s486 1270) 774
noncomputable def q787 (P : Params) : Obj := { cls := (.type PySem.W.SL.s2766695959194262286x5), data := (.seq ⟨[]⟩ 0) }
noncomputable def q788 (P : Params) : Obj := { cls := .none, data := (.fields ⟨[]⟩) }
noncomputable def q789 (P : Params) : Obj := fnY (xT 34) s416
noncomputable def q790 (P : Params) : Obj := { cls := (.type PySem.W.SL.s5856160107412720595x4), data := (.fields ⟨[(.str s416 1285), (.str s416 1286), (.str s182 1287), (.int 765 0), (.int 1 0), (.int 0 0), (.int 0 0), (.int 3 0), (.ref 776), (.bool true), (.int 318 0), (.ref 777), .none, .none, .none, (.ref 778), (.int 1288 0), (.int 765 0), (.str s182 1289)]⟩) }
noncomputable def q791 (P : Params) : Obj := fnX (xT 34) s416 .none (.str s402 1283) 779
noncomputable def q792 (P : Params) : Obj := { cls := (.type PySem.W.SL.s2766695959194262286x5), data := (.seq ⟨[]⟩ 0) }
noncomputable def q793 (P : Params) : Obj := { cls := .none, data := (.fields ⟨[]⟩) }
noncomputable def q794 (P : Params) : Obj := fnY (xT 35) s417
noncomputable def q795 (P : Params) : Obj := { cls := (.type PySem.W.SL.s5856160107412720595x4), data := (.fields ⟨[(.str s417 1291), (.str s417 1292), (.str s182 1293), (.int 767 0), (.int 1 0), (.int 0 0), (.int 0 0), (.int 3 0), (.ref 781), (.bool true), (.int 318 0), (.ref 782), .none, .none, .none, (.ref 783), (.int 1294 0), (.int 767 0), (.str s182 1295)]⟩) }
noncomputable def q796 (P : Params) : Obj := fnX (xT 35) s417 .none (.str s402 1283) 784
noncomputable def q797 (P : Params) : Obj := { cls := (.type PySem.W.SL.s2766695959194262286x5), data := (.seq ⟨[]⟩ 0) }
noncomputable def q798 (P : Params) : Obj := { cls := .none, data := (.fields ⟨[]⟩) }
noncomputable def q799 (P : Params) : Obj := { cls := (.type PySem.W.SL.s2766695959194262286x5), data := (.seq ⟨[(.str s487 1300), (.str s488 1301)]⟩ 0) }
noncomputable def q800 (P : Params) : Obj := { cls := (.type PySem.W.SL.s2766695959194262286x5), data := (.seq ⟨[]⟩ 0) }
noncomputable def q801 (P : Params) : Obj := fnY (xT 36) s418
noncomputable def q802 (P : Params) : Obj := { cls := (.type PySem.W.SL.s5856160107412720595x4), data := (.fields ⟨[(.str s418 1297), (.str s418 1298), (.str s182 1299), (.int 770 0), (.int 2 0), (.int 0 0), (.int 0 0), (.int 3 0), (.ref 786), (.bool true), (.int 318 0), (.ref 787), .none, (.ref 788), (.ref 789), (.ref 790), (.int 1302 0), (.int 770 0), (.str s182 1303)]⟩) }
noncomputable def q803 (P : Params) : Obj := fnX (xT 36) s418 .none (.str s402 1283) 791
noncomputable def q804 (P : Params) : Obj := { cls := (.type PySem.W.SL.s2766695959194262286x5), data := (.seq ⟨[]⟩ 0) }
noncomputable def q805 (P : Params) : Obj := { cls := .none, data := (.fields ⟨[]⟩) }
noncomputable def q806 (P : Params) : Obj := { cls := (.type PySem.W.SL.s2766695959194262286x5), data := (.seq ⟨[(.str s489 1308), (.str s490 1309), (.str s339 1310)]⟩ 0) }
noncomputable def q807 (P : Params) : Obj := { cls := (.type PySem.W.SL.s2766695959194262286x5), data := (.seq ⟨[]⟩ 0) }
noncomputable def q808 (P : Params) : Obj := fnY (xT 37) s419
noncomputable def q809 (P : Params) : Obj := { cls := (.type PySem.W.SL.s5856160107412720595x4), data := (.fields ⟨[(.str s419 1305), (.str s419 1306), (.str s182 1307), (.int 774 0), (.int 2 0), (.int 0 0), (.int 0 0), (.int 3 0), (.ref 793), (.bool true), (.int 318 0), (.ref 794), .none, (.ref 795), (.ref 796), (.ref 797), (.int 1311 0), (.int 774 0), (.str s182 1312)]⟩) }
noncomputable def q810 (P : Params) : Obj := fnX (xT 37) s419 .none (.str s402 1283) 798
noncomputable def q811 (P : Params) : Obj := { cls := (.type PySem.W.SL.s2766695959194262286x5), data := (.seq ⟨[]⟩ 0) }
noncomputable def q812 (P : Params) : Obj := { cls := .none, data := (.fields ⟨[]⟩) }
noncomputable def q813 (P : Params) : Obj := { cls := (.type PySem.W.SL.s2766695959194262286x5), data := (.seq ⟨[(.str s487 1317), (.str s489 1318), (.str s491 1319)]⟩ 0) }
noncomputable def q814 (P : Params) : Obj := { cls := (.type PySem.W.SL.s2766695959194262286x5), data := (.seq ⟨[]⟩ 0) }
noncomputable def q815 (P : Params) : Obj := fnY (xT 38) s420
noncomputable def q816 (P : Params) : Obj := { cls := (.type PySem.W.SL.s5856160107412720595x4), data := (.fields ⟨[(.str s420 1314), (.str s420 1315), (.str s182 1316), (.int 777 0), (.int 1 0), (.int 0 0), (.int 0 0), (.int 3 0), (.ref 800), (.bool true), (.int 318 0), (.ref 801), .none, (.ref 802), (.ref 803), (.ref 804), (.int 1320 0), (.int 777 0), (.str s182 1321)]⟩) }
noncomputable def q817 (P : Params) : Obj := fnX (xT 38) s420 .none (.str s402 1283) 805
noncomputable def q818 (P : Params) : Obj := { cls := (.type PySem.W.SL.s2766695959194262286x5), data := (.seq ⟨[]⟩ 0) }
noncomputable def q819 (P : Params) : Obj := { cls := .none, data := (.fields ⟨[]⟩) }
noncomputable def q820 (P : Params) : Obj := fnY (xT 39) s421
noncomputable def q821 (P : Params) : Obj := { cls := (.type PySem.W.SL.s5856160107412720595x4), data := (.fields ⟨[(.str s421 1323), (.str s421 1324), (.str s182 1325), (.int 782 0), (.int 1 0), (.int 0 0), (.int 0 0), (.int 3 0), (.ref 807), (.bool true), (.int 318 0), (.ref 808), .none, .none, .none, (.ref 809), (.int 1326 0), (.int 782 0), (.str s182 1327)]⟩) }
noncomputable def q822 (P : Params) : Obj := fnX (xT 39) s421 .none (.str s402 1283) 810
noncomputable def T4 (P : Params) : BT := (.node (q0 P) (.node (q1 P) (.node (q618 P) (.node (q7 P) (.node (q15 P) (.node (q31 P) (.node (q66 P) (.node (q130 P) (.node (q261 P) (.node (q520 P) .nil .nil) (.node (q778 P) .nil .nil)) (.node (q392 P) (.node (q650 P) .nil .nil) .nil)) (.node (q197 P) (.node (q325 P) (.node (q584 P) .nil .nil) .nil) (.node (q456 P) (.node (q714 P) .nil .nil) .nil))) (.node (q98 P) (.node (q165 P) (.node (q293 P) (.node (q552 P) .nil .nil) (.node (q810 P) .nil .nil)) (.node (q424 P) (.node (q682 P) .nil .nil) .nil)) (.node (q229 P) (.node (q357 P) (.node (q616 P) .nil .nil) .nil) (.node (q488 P) (.node (q746 P) .nil .nil) .nil)))) (.node (q50 P) (.node (q82 P) (.node (q149 P) (.node (q277 P) (.node (q536 P) .nil .nil) (.node (q794 P) .nil .nil)) (.node (q408 P) (.node (q666 P) .nil .nil) .nil)) (.node (q213 P) (.node (q341 P) (.node (q600 P) .nil .nil) .nil) (.node (q472 P) (.node (q730 P) .nil .nil) .nil))) (.node (q114 P) (.node (q181 P) (.node (q309 P) (.node (q568 P) .nil .nil) .nil) (.node (q440 P) (.node (q698 P) .nil .nil) .nil)) (.node (q245 P) (.node (q376 P) (.node (q634 P) .nil .nil) .nil) (.node (q504 P) (.node (q762 P) .nil .nil) .nil))))) (.node (q23 P) (.node (q42 P) (.node (q74 P) (.node (q141 P) (.node (q269 P) (.node (q528 P) .nil .nil) (.node (q786 P) .nil .nil)) (.node (q400 P) (.node (q658 P) .nil .nil) .nil)) (.node (q205 P) (.node (q333 P) (.node (q592 P) .nil .nil) .nil) (.node (q464 P) (.node (q722 P) .nil .nil) .nil))) (.node (q106 P) (.node (q173 P) (.node (q301 P) (.node (q560 P) .nil .nil) (.node (q818 P) .nil .nil)) (.node (q432 P) (.node (q690 P) .nil .nil) .nil)) (.node (q237 P) (.node (q365 P) (.node (q626 P) .nil .nil) .nil) (.node (q496 P) (.node (q754 P) .nil .nil) .nil)))) (.node (q58 P) (.node (q90 P) (.node (q157 P) (.node (q285 P) (.node (q544 P) .nil .nil) (.node (q802 P) .nil .nil)) (.node (q416 P) (.node (q674 P) .nil .nil) .nil)) (.node (q221 P) (.node (q349 P) (.node (q608 P) .nil .nil) .nil) (.node (q480 P) (.node (q738 P) .nil .nil) .nil))) (.node (q122 P) (.node (q189 P) (.node (q317 P) (.node (q576 P) .nil .nil) .nil) (.node (q448 P) (.node (q706 P) .nil .nil) .nil)) (.node (q253 P) (.node (q384 P) (.node (q642 P) .nil .nil) .nil) (.node (q512 P) (.node (q770 P) .nil .nil) .nil)))))) (.node (q11 P) (.node (q19 P) (.node (q619 P) (.node (q70 P) (.node (q134 P) (.node (q265 P) (.node (q524 P) .nil .nil) (.node (q782 P) .nil .nil)) (.node (q396 P) (.node (q654 P) .nil .nil) .nil)) (.node (q201 P) (.node (q329 P) (.node (q588 P) .nil .nil) .nil) (.node (q460 P) (.node (q718 P) .nil .nil) .nil))) (.node (q102 P) (.node (q169 P) (.node (q297 P) (.node (q556 P) .nil .nil) (.node (q814 P) .nil .nil)) (.node (q428 P) (.node (q686 P) .nil .nil) .nil)) (.node (q233 P) (.node (q361 P) (.node (q622 P) .nil .nil) .nil) (.node (q492 P) (.node (q750 P) .nil .nil) .nil)))) (.node (q54 P) (.node (q86 P) (.node (q153 P) (.node (q281 P) (.node (q540 P) .nil .nil) (.node (q798 P) .nil .nil)) (.node (q412 P) (.node (q670 P) .nil .nil) .nil)) (.node (q217 P) (.node (q345 P) (.node (q604 P) .nil .nil) .nil) (.node (q476 P) (.node (q734 P) .nil .nil) .nil))) (.node (q118 P) (.node (q185 P) (.node (q313 P) (.node (q572 P) .nil .nil) .nil) (.node (q444 P) (.node (q702 P) .nil .nil) .nil)) (.node (q249 P) (.node (q380 P) (.node (q638 P) .nil .nil) .nil) (.node (q508 P) (.node (q766 P) .nil .nil) .nil))))) (.node (q27 P) (.node (q46 P) (.node (q78 P) (.node (q145 P) (.node (q273 P) (.node (q532 P) .nil .nil) (.node (q790 P) .nil .nil)) (.node (q404 P) (.node (q662 P) .nil .nil) .nil)) (.node (q209 P) (.node (q337 P) (.node (q596 P) .nil .nil) .nil) (.node (q468 P) (.node (q726 P) .nil .nil) .nil))) (.node (q110 P) (.node (q177 P) (.node (q305 P) (.node (q564 P) .nil .nil) (.node (q822 P) .nil .nil)) (.node (q436 P) (.node (q694 P) .nil .nil) .nil)) (.node (q241 P) (.node (q372 P) (.node (q630 P) .nil .nil) .nil) (.node (q500 P) (.node (q758 P) .nil .nil) .nil)))) (.node (q62 P) (.node (q94 P) (.node (q161 P) (.node (q289 P) (.node (q548 P) .nil .nil) (.node (q806 P) .nil .nil)) (.node (q420 P) (.node (q678 P) .nil .nil) .nil)) (.node (q225 P) (.node (q353 P) (.node (q612 P) .nil .nil) .nil) (.node (q484 P) (.node (q742 P) .nil .nil) .nil))) (.node (q126 P) (.node (q193 P) (.node (q321 P) (.node (q580 P) .nil .nil) .nil) (.node (q452 P) (.node (q710 P) .nil .nil) .nil)) (.node (q257 P) (.node (q388 P) (.node (q646 P) .nil .nil) .nil) (.node (q516 P) (.node (q774 P) .nil .nil) .nil))))))) (.node (q5 P) (.node (q9 P) (.node (q17 P) (.node (q33 P) (.node (q68 P) (.node (q370 P) (.node (q263 P) (.node (q522 P) .nil .nil) (.node (q780 P) .nil .nil)) (.node (q394 P) (.node (q652 P) .nil .nil) .nil)) (.node (q199 P) (.node (q327 P) (.node (q586 P) .nil .nil) .nil) (.node (q458 P) (.node (q716 P) .nil .nil) .nil))) (.node (q100 P) (.node (q167 P) (.node (q295 P) (.node (q554 P) .nil .nil) (.node (q812 P) .nil .nil)) (.node (q426 P) (.node (q684 P) .nil .nil) .nil)) (.node (q231 P) (.node (q359 P) (.node (q620 P) .nil .nil) .nil) (.node (q490 P) (.node (q748 P) .nil .nil) .nil)))) (.node (q52 P) (.node (q84 P) (.node (q151 P) (.node (q279 P) (.node (q538 P) .nil .nil) (.node (q796 P) .nil .nil)) (.node (q410 P) (.node (q668 P) .nil .nil) .nil)) (.node (q215 P) (.node (q343 P) (.node (q602 P) .nil .nil) .nil) (.node (q474 P) (.node (q732 P) .nil .nil) .nil))) (.node (q116 P) (.node (q183 P) (.node (q311 P) (.node (q570 P) .nil .nil) .nil) (.node (q442 P) (.node (q700 P) .nil .nil) .nil)) (.node (q247 P) (.node (q378 P) (.node (q636 P) .nil .nil) .nil) (.node (q506 P) (.node (q764 P) .nil .nil) .nil))))) (.node (q25 P) (.node (q44 P) (.node (q76 P) (.node (q143 P) (.node (q271 P) (.node (q530 P) .nil .nil) (.node (q788 P) .nil .nil)) (.node (q402 P) (.node (q660 P) .nil .nil) .nil)) (.node (q207 P) (.node (q335 P) (.node (q594 P) .nil .nil) .nil) (.node (q466 P) (.node (q724 P) .nil .nil) .nil))) (.node (q108 P) (.node (q175 P) (.node (q303 P) (.node (q562 P) .nil .nil) (.node (q820 P) .nil .nil)) (.node (q434 P) (.node (q692 P) .nil .nil) .nil)) (.node (q239 P) (.node (q367 P) (.node (q628 P) .nil .nil) .nil) (.node (q498 P) (.node (q756 P) .nil .nil) .nil)))) (.node (q60 P) (.node (q92 P) (.node (q159 P) (.node (q287 P) (.node (q546 P) .nil .nil) (.node (q804 P) .nil .nil)) (.node (q418 P) (.node (q676 P) .nil .nil) .nil)) (.node (q223 P) (.node (q351 P) (.node (q610 P) .nil .nil) .nil) (.node (q482 P) (.node (q740 P) .nil .nil) .nil))) (.node (q124 P) (.node (q191 P) (.node (q319 P) (.node (q578 P) .nil .nil) .nil) (.node (q450 P) (.node (q708 P) .nil .nil) .nil)) (.node (q255 P) (.node (q386 P) (.node (q644 P) .nil .nil) .nil) (.node (q514 P) (.node (q772 P) .nil .nil) .nil)))))) (.node (q13 P) (.node (q21 P) (.node (q37 P) (.node (q72 P) (.node (q139 P) (.node (q267 P) (.node (q526 P) .nil .nil) (.node (q784 P) .nil .nil)) (.node (q398 P) (.node (q656 P) .nil .nil) .nil)) (.node (q203 P) (.node (q331 P) (.node (q590 P) .nil .nil) .nil) (.node (q462 P) (.node (q720 P) .nil .nil) .nil))) (.node (q104 P) (.node (q171 P) (.node (q299 P) (.node (q558 P) .nil .nil) (.node (q816 P) .nil .nil)) (.node (q430 P) (.node (q688 P) .nil .nil) .nil)) (.node (q235 P) (.node (q363 P) (.node (q624 P) .nil .nil) .nil) (.node (q494 P) (.node (q752 P) .nil .nil) .nil)))) (.node (q56 P) (.node (q88 P) (.node (q155 P) (.node (q283 P) (.node (q542 P) .nil .nil) (.node (q800 P) .nil .nil)) (.node (q414 P) (.node (q672 P) .nil .nil) .nil)) (.node (q219 P) (.node (q347 P) (.node (q606 P) .nil .nil) .nil) (.node (q478 P) (.node (q736 P) .nil .nil) .nil))) (.node (q137 P) (.node (q187 P) (.node (q315 P) (.node (q574 P) .nil .nil) .nil) (.node (q446 P) (.node (q704 P) .nil .nil) .nil)) (.node (q251 P) (.node (q382 P) (.node (q640 P) .nil .nil) .nil) (.node (q510 P) (.node (q768 P) .nil .nil) .nil))))) (.node (q29 P) (.node (q48 P) (.node (q80 P) (.node (q147 P) (.node (q275 P) (.node (q534 P) .nil .nil) (.node (q792 P) .nil .nil)) (.node (q406 P) (.node (q664 P) .nil .nil) .nil)) (.node (q211 P) (.node (q339 P) (.node (q598 P) .nil .nil) .nil) (.node (q470 P) (.node (q728 P) .nil .nil) .nil))) (.node (q112 P) (.node (q179 P) (.node (q307 P) (.node (q566 P) .nil .nil) .nil) (.node (q438 P) (.node (q696 P) .nil .nil) .nil)) (.node (q243 P) (.node (q374 P) (.node (q632 P) .nil .nil) .nil) (.node (q502 P) (.node (q760 P) .nil .nil) .nil)))) (.node (q64 P) (.node (q96 P) (.node (q163 P) (.node (q291 P) (.node (q550 P) .nil .nil) (.node (q808 P) .nil .nil)) (.node (q422 P) (.node (q680 P) .nil .nil) .nil)) (.node (q227 P) (.node (q355 P) (.node (q614 P) .nil .nil) .nil) (.node (q486 P) (.node (q744 P) .nil .nil) .nil))) (.node (q128 P) (.node (q195 P) (.node (q323 P) (.node (q582 P) .nil .nil) .nil) (.node (q454 P) (.node (q712 P) .nil .nil) .nil)) (.node (q259 P) (.node (q390 P) (.node (q648 P) .nil .nil) .nil) (.node (q518 P) (.node (q776 P) .nil .nil) .nil)))))))) (.node (q38 P) (.node (q4 P) (.node (q8 P) (.node (q16 P) (.node (q32 P) (.node (q67 P) (.node (q131 P) (.node (q262 P) (.node (q521 P) .nil .nil) (.node (q779 P) .nil .nil)) (.node (q393 P) (.node (q651 P) .nil .nil) .nil)) (.node (q198 P) (.node (q326 P) (.node (q585 P) .nil .nil) .nil) (.node (q457 P) (.node (q715 P) .nil .nil) .nil))) (.node (q99 P) (.node (q166 P) (.node (q294 P) (.node (q553 P) .nil .nil) (.node (q811 P) .nil .nil)) (.node (q425 P) (.node (q683 P) .nil .nil) .nil)) (.node (q230 P) (.node (q358 P) (.node (q617 P) .nil .nil) .nil) (.node (q489 P) (.node (q747 P) .nil .nil) .nil)))) (.node (q51 P) (.node (q83 P) (.node (q150 P) (.node (q278 P) (.node (q537 P) .nil .nil) (.node (q795 P) .nil .nil)) (.node (q409 P) (.node (q667 P) .nil .nil) .nil)) (.node (q214 P) (.node (q342 P) (.node (q601 P) .nil .nil) .nil) (.node (q473 P) (.node (q731 P) .nil .nil) .nil))) (.node (q115 P) (.node (q182 P) (.node (q310 P) (.node (q569 P) .nil .nil) .nil) (.node (q441 P) (.node (q699 P) .nil .nil) .nil)) (.node (q246 P) (.node (q377 P) (.node (q635 P) .nil .nil) .nil) (.node (q505 P) (.node (q763 P) .nil .nil) .nil))))) (.node (q24 P) (.node (q43 P) (.node (q75 P) (.node (q142 P) (.node (q270 P) (.node (q529 P) .nil .nil) (.node (q787 P) .nil .nil)) (.node (q401 P) (.node (q659 P) .nil .nil) .nil)) (.node (q206 P) (.node (q334 P) (.node (q593 P) .nil .nil) .nil) (.node (q465 P) (.node (q723 P) .nil .nil) .nil))) (.node (q107 P) (.node (q174 P) (.node (q302 P) (.node (q561 P) .nil .nil) (.node (q819 P) .nil .nil)) (.node (q433 P) (.node (q691 P) .nil .nil) .nil)) (.node (q238 P) (.node (q366 P) (.node (q627 P) .nil .nil) .nil) (.node (q497 P) (.node (q755 P) .nil .nil) .nil)))) (.node (q59 P) (.node (q91 P) (.node (q158 P) (.node (q286 P) (.node (q545 P) .nil .nil) (.node (q803 P) .nil .nil)) (.node (q417 P) (.node (q675 P) .nil .nil) .nil)) (.node (q222 P) (.node (q350 P) (.node (q609 P) .nil .nil) .nil) (.node (q481 P) (.node (q739 P) .nil .nil) .nil))) (.node (q123 P) (.node (q190 P) (.node (q318 P) (.node (q577 P) .nil .nil) .nil) (.node (q449 P) (.node (q707 P) .nil .nil) .nil)) (.node (q254 P) (.node (q385 P) (.node (q643 P) .nil .nil) .nil) (.node (q513 P) (.node (q771 P) .nil .nil) .nil)))))) (.node (q12 P) (.node (q20 P) (.node (q36 P) (.node (q71 P) (.node (q138 P) (.node (q266 P) (.node (q525 P) .nil .nil) (.node (q783 P) .nil .nil)) (.node (q397 P) (.node (q655 P) .nil .nil) .nil)) (.node (q202 P) (.node (q330 P) (.node (q589 P) .nil .nil) .nil) (.node (q461 P) (.node (q719 P) .nil .nil) .nil))) (.node (q103 P) (.node (q170 P) (.node (q298 P) (.node (q557 P) .nil .nil) (.node (q815 P) .nil .nil)) (.node (q429 P) (.node (q687 P) .nil .nil) .nil)) (.node (q234 P) (.node (q362 P) (.node (q623 P) .nil .nil) .nil) (.node (q493 P) (.node (q751 P) .nil .nil) .nil)))) (.node (q55 P) (.node (q87 P) (.node (q154 P) (.node (q282 P) (.node (q541 P) .nil .nil) (.node (q799 P) .nil .nil)) (.node (q413 P) (.node (q671 P) .nil .nil) .nil)) (.node (q218 P) (.node (q346 P) (.node (q605 P) .nil .nil) .nil) (.node (q477 P) (.node (q735 P) .nil .nil) .nil))) (.node (q119 P) (.node (q186 P) (.node (q314 P) (.node (q573 P) .nil .nil) .nil) (.node (q445 P) (.node (q703 P) .nil .nil) .nil)) (.node (q250 P) (.node (q381 P) (.node (q639 P) .nil .nil) .nil) (.node (q509 P) (.node (q767 P) .nil .nil) .nil))))) (.node (q28 P) (.node (q47 P) (.node (q79 P) (.node (q146 P) (.node (q274 P) (.node (q533 P) .nil .nil) (.node (q791 P) .nil .nil)) (.node (q405 P) (.node (q663 P) .nil .nil) .nil)) (.node (q210 P) (.node (q338 P) (.node (q597 P) .nil .nil) .nil) (.node (q469 P) (.node (q727 P) .nil .nil) .nil))) (.node (q111 P) (.node (q178 P) (.node (q306 P) (.node (q565 P) .nil .nil) .nil) (.node (q437 P) (.node (q695 P) .nil .nil) .nil)) (.node (q242 P) (.node (q373 P) (.node (q631 P) .nil .nil) .nil) (.node (q501 P) (.node (q759 P) .nil .nil) .nil)))) (.node (q63 P) (.node (q95 P) (.node (q162 P) (.node (q290 P) (.node (q549 P) .nil .nil) (.node (q807 P) .nil .nil)) (.node (q421 P) (.node (q679 P) .nil .nil) .nil)) (.node (q226 P) (.node (q354 P) (.node (q613 P) .nil .nil) .nil) (.node (q485 P) (.node (q743 P) .nil .nil) .nil))) (.node (q127 P) (.node (q194 P) (.node (q322 P) (.node (q581 P) .nil .nil) .nil) (.node (q453 P) (.node (q711 P) .nil .nil) .nil)) (.node (q258 P) (.node (q389 P) (.node (q647 P) .nil .nil) .nil) (.node (q517 P) (.node (q775 P) .nil .nil) .nil))))))) (.node (q6 P) (.node (q10 P) (.node (q18 P) (.node (q34 P) (.node (q69 P) (.node (q133 P) (.node (q264 P) (.node (q523 P) .nil .nil) (.node (q781 P) .nil .nil)) (.node (q395 P) (.node (q653 P) .nil .nil) .nil)) (.node (q200 P) (.node (q328 P) (.node (q587 P) .nil .nil) .nil) (.node (q459 P) (.node (q717 P) .nil .nil) .nil))) (.node (q101 P) (.node (q168 P) (.node (q296 P) (.node (q555 P) .nil .nil) (.node (q813 P) .nil .nil)) (.node (q427 P) (.node (q685 P) .nil .nil) .nil)) (.node (q232 P) (.node (q360 P) (.node (q621 P) .nil .nil) .nil) (.node (q491 P) (.node (q749 P) .nil .nil) .nil)))) (.node (q53 P) (.node (q85 P) (.node (q152 P) (.node (q280 P) (.node (q539 P) .nil .nil) (.node (q797 P) .nil .nil)) (.node (q411 P) (.node (q669 P) .nil .nil) .nil)) (.node (q216 P) (.node (q344 P) (.node (q603 P) .nil .nil) .nil) (.node (q475 P) (.node (q733 P) .nil .nil) .nil))) (.node (q117 P) (.node (q184 P) (.node (q312 P) (.node (q571 P) .nil .nil) .nil) (.node (q443 P) (.node (q701 P) .nil .nil) .nil)) (.node (q248 P) (.node (q379 P) (.node (q637 P) .nil .nil) .nil) (.node (q507 P) (.node (q765 P) .nil .nil) .nil))))) (.node (q26 P) (.node (q45 P) (.node (q77 P) (.node (q144 P) (.node (q272 P) (.node (q531 P) .nil .nil) (.node (q789 P) .nil .nil)) (.node (q403 P) (.node (q661 P) .nil .nil) .nil)) (.node (q208 P) (.node (q336 P) (.node (q595 P) .nil .nil) .nil) (.node (q467 P) (.node (q725 P) .nil .nil) .nil))) (.node (q109 P) (.node (q176 P) (.node (q304 P) (.node (q563 P) .nil .nil) (.node (q821 P) .nil .nil)) (.node (q435 P) (.node (q693 P) .nil .nil) .nil)) (.node (q240 P) (.node (q371 P) (.node (q629 P) .nil .nil) .nil) (.node (q499 P) (.node (q757 P) .nil .nil) .nil)))) (.node (q61 P) (.node (q93 P) (.node (q160 P) (.node (q288 P) (.node (q547 P) .nil .nil) (.node (q805 P) .nil .nil)) (.node (q419 P) (.node (q677 P) .nil .nil) .nil)) (.node (q224 P) (.node (q352 P) (.node (q611 P) .nil .nil) .nil) (.node (q483 P) (.node (q741 P) .nil .nil) .nil))) (.node (q125 P) (.node (q192 P) (.node (q320 P) (.node (q579 P) .nil .nil) .nil) (.node (q451 P) (.node (q709 P) .nil .nil) .nil)) (.node (q256 P) (.node (q387 P) (.node (q645 P) .nil .nil) .nil) (.node (q515 P) (.node (q773 P) .nil .nil) .nil)))))) (.node (q14 P) (.node (q22 P) (.node (q41 P) (.node (q73 P) (.node (q140 P) (.node (q268 P) (.node (q527 P) .nil .nil) (.node (q785 P) .nil .nil)) (.node (q399 P) (.node (q657 P) .nil .nil) .nil)) (.node (q204 P) (.node (q332 P) (.node (q591 P) .nil .nil) .nil) (.node (q463 P) (.node (q721 P) .nil .nil) .nil))) (.node (q105 P) (.node (q172 P) (.node (q300 P) (.node (q559 P) .nil .nil) (.node (q817 P) .nil .nil)) (.node (q431 P) (.node (q689 P) .nil .nil) .nil)) (.node (q236 P) (.node (q364 P) (.node (q625 P) .nil .nil) .nil) (.node (q495 P) (.node (q753 P) .nil .nil) .nil)))) (.node (q57 P) (.node (q89 P) (.node (q156 P) (.node (q284 P) (.node (q543 P) .nil .nil) (.node (q801 P) .nil .nil)) (.node (q415 P) (.node (q673 P) .nil .nil) .nil)) (.node (q220 P) (.node (q348 P) (.node (q607 P) .nil .nil) .nil) (.node (q479 P) (.node (q737 P) .nil .nil) .nil))) (.node (q121 P) (.node (q188 P) (.node (q316 P) (.node (q575 P) .nil .nil) .nil) (.node (q447 P) (.node (q705 P) .nil .nil) .nil)) (.node (q252 P) (.node (q383 P) (.node (q641 P) .nil .nil) .nil) (.node (q511 P) (.node (q769 P) .nil .nil) .nil))))) (.node (q30 P) (.node (q49 P) (.node (q81 P) (.node (q148 P) (.node (q276 P) (.node (q535 P) .nil .nil) (.node (q793 P) .nil .nil)) (.node (q407 P) (.node (q665 P) .nil .nil) .nil)) (.node (q212 P) (.node (q340 P) (.node (q599 P) .nil .nil) .nil) (.node (q471 P) (.node (q729 P) .nil .nil) .nil))) (.node (q113 P) (.node (q180 P) (.node (q308 P) (.node (q567 P) .nil .nil) .nil) (.node (q439 P) (.node (q697 P) .nil .nil) .nil)) (.node (q244 P) (.node (q375 P) (.node (q633 P) .nil .nil) .nil) (.node (q503 P) (.node (q761 P) .nil .nil) .nil)))) (.node (q65 P) (.node (q97 P) (.node (q164 P) (.node (q292 P) (.node (q551 P) .nil .nil) (.node (q809 P) .nil .nil)) (.node (q423 P) (.node (q681 P) .nil .nil) .nil)) (.node (q228 P) (.node (q356 P) (.node (q615 P) .nil .nil) .nil) (.node (q487 P) (.node (q745 P) .nil .nil) .nil))) (.node (q129 P) (.node (q196 P) (.node (q324 P) (.node (q583 P) .nil .nil) .nil) (.node (q455 P) (.node (q713 P) .nil .nil) .nil)) (.node (q260 P) (.node (q391 P) (.node (q649 P) .nil .nil) .nil) (.node (q519 P) (.node (q777 P) .nil .nil) .nil)))))))))
-- state f: the same tree; toks 1329 n 812
abbrev zp : Pos := ⟨0, 0, 0, 0⟩
abbrev ann : Option Value := some (.ref 6)
noncomputable def tenv (p : Program) : Env := { scope := p.main.scope, locals := mainNs, globals := mainNs, cells := [], code := .ref 36, frame := some 37 }
noncomputable def tcode (p : Program) : Code := .body (behindTheImports p) (tenv p)
noncomputable def sl (p : Program) (i n : Nat) : List Stmt := ((behindTheImports p).drop i).take n
noncomputable def S0 (w : World) (os : OsState) : SharedT := ⟨T0 w.params, 34, {}, #[], {}, 318, os⟩
noncomputable def Sa (w : World) (os : OsState) : SharedT := ⟨Ta w.params, 38, {}, #[], {}, 324, os⟩
noncomputable def S1 (w : World) (os : OsState) : SharedT := ⟨T1 w.params, 132, {}, #[], {}, 494, os⟩
noncomputable def S2 (w : World) (os : OsState) : SharedT := ⟨T2 w.params, 362, {}, #[], {}, 756, os⟩
noncomputable def S3 (w : World) (os : OsState) : SharedT := ⟨T3 w.params, 609, {}, #[], {}, 1043, os⟩
noncomputable def S4 (w : World) (os : OsState) : SharedT := ⟨T4 w.params, 812, {}, #[], {}, 1329, os⟩
noncomputable def thr (p : Program) (i n : Nat) (pos : Pos) : Thread := ⟨(execs (sl p i n) (tenv p)).wrap doneF deadEnd id id, tcode p, pos, [topFrame zp]⟩
theorem opens (w : World) : (fencedOpening treeTable PySem.Challenge.pw_op0211_01 w 10520).map (fun s => (s.heap, s.gens, s.drawn, s.toks)) = some (absHeap (T0 w.params) 34 {}, #[], {}, 318) := by
  unfold fencedOpening
  rw [Fast.te10274390034422433532, Fast.te14364793385576792824, Fast.te1435165496053646825, Fast.te14289696077712309145]
  kernel_rfl
theorem sizes (w : World) : ((absHeap (T0 w.params) 34 {}).isNs mainGlobals && (#[] : Array GenState).size == 0, (absHeap (T0 w.params) 34 {}).objs.size, (absHeap (T0 w.params) 34 {}).nsMap mainGlobals "__annotations__") = (true, 34, ann) := by
  rw [Fast.te8920871248978507458]
  kernel_rfl
theorem pre (w : World) (os : OsState) : topGo treeTable PySem.Challenge.pw_op0211_01 w 34 ann 12 (S0 w os).abs (topStub PySem.Challenge.pw_op0211_01) = some ((Sa w os).abs, ⟨denote treeTable (tcode PySem.Challenge.pw_op0211_01), tcode PySem.Challenge.pw_op0211_01, zp, [topFrame zp]⟩) := by
  unfold topStub
  rw [Fast.te15667345088766844465, Fast.te14364793385576792824, Fast.te17154629097778926822, Fast.te12822647523644345616, Fast.te11892475500146522536, Fast.te6905046200447255374]
  kernel_rfl
theorem block (w : World) (os : OsState) : segRunT treeTable PySem.Challenge.pw_op0211_01 w 34 ann 1 1 (Sa w os) (blockOf (behindTheImports PySem.Challenge.pw_op0211_01) (tenv PySem.Challenge.pw_op0211_01) (tcode PySem.Challenge.pw_op0211_01) zp [topFrame zp]) = some (.next, Sa w os, tcode PySem.Challenge.pw_op0211_01, zp) := by
  unfold blockOf
  rw [Fast.te10110043849684766642, Fast.te14364793385576792824, Fast.te1066825118222455980]
  kernel_rfl
theorem piece1 (w : World) (os : OsState) : segRunT treeTable PySem.Challenge.pw_op0211_01 w 34 ann 1 1147 (Sa w os) (thr PySem.Challenge.pw_op0211_01 0 12 zp) = some (.next, S1 w os, tcode PySem.Challenge.pw_op0211_01, ⟨45, 0, 46, 21⟩) := by
  unfold thr
  rw [Fast.te10110043849684766642, Fast.te14364793385576792824, Fast.te12563942051412417395]
  kernel_rfl
theorem piece2 (w : World) (os : OsState) : segRunT treeTable PySem.Challenge.pw_op0211_01 w 34 ann 1 1278 (S1 w os) (thr PySem.Challenge.pw_op0211_01 12 1 ⟨45, 0, 46, 21⟩) = some (.next, S2 w os, tcode PySem.Challenge.pw_op0211_01, ⟨47, 0, 216, 17⟩) := by
  unfold thr
  rw [Fast.te10110043849684766642, Fast.te14364793385576792824, Fast.te12563942051412417395]
  kernel_rfl
theorem piece3 (w : World) (os : OsState) : segRunT treeTable PySem.Challenge.pw_op0211_01 w 34 ann 1 1578 (S2 w os) (thr PySem.Challenge.pw_op0211_01 13 1 ⟨47, 0, 216, 17⟩) = some (.next, S3 w os, tcode PySem.Challenge.pw_op0211_01, ⟨217, 0, 421, 17⟩) := by
  unfold thr
  rw [Fast.te10110043849684766642, Fast.te14364793385576792824, Fast.te12563942051412417395]
  kernel_rfl
theorem piece4 (w : World) (os : OsState) : segRunT treeTable PySem.Challenge.pw_op0211_01 w 34 ann 1 1198 (S3 w os) (thr PySem.Challenge.pw_op0211_01 14 24 ⟨217, 0, 421, 17⟩) = some (.next, S4 w os, tcode PySem.Challenge.pw_op0211_01, ⟨782, 0, 788, 115⟩) := by
  unfold thr
  rw [Fast.te10110043849684766642, Fast.te14364793385576792824, Fast.te12563942051412417395]
  kernel_rfl
theorem fin (w : World) (os : OsState) : topRun treeTable PySem.Challenge.pw_op0211_01 w 34 ann 2 (S4 w os).abs ⟨doneF .next, tcode PySem.Challenge.pw_op0211_01, ⟨782, 0, 788, 115⟩, [topFrame zp]⟩ = some (S4 w os).abs := by
  rw [Fast.te14082659384304107361, Fast.te14364793385576792824]
  kernel_rfl
theorem splits : behindTheImports PySem.Challenge.pw_op0211_01 = sl PySem.Challenge.pw_op0211_01 0 12 ++ (sl PySem.Challenge.pw_op0211_01 12 1 ++ (sl PySem.Challenge.pw_op0211_01 13 1 ++ (sl PySem.Challenge.pw_op0211_01 14 24 ++ []))) := by
  kernel_rfl
theorem runs (w : World) (os : OsState) : topRun treeTable PySem.Challenge.pw_op0211_01 w 34 ann (12 + (1 + (1147 + (1278 + (1578 + (1198 + 2)))))) (S0 w os).abs (topStub PySem.Challenge.pw_op0211_01) = some (S4 w os).abs := by
  refine go_top (pre w os) ?_
  refine piece_block (env := tenv PySem.Challenge.pw_op0211_01) (segRun_of (block w os)) ?_
  rw [show restOf (behindTheImports PySem.Challenge.pw_op0211_01) (tenv PySem.Challenge.pw_op0211_01) (tcode PySem.Challenge.pw_op0211_01) zp [topFrame zp] = restOf (sl PySem.Challenge.pw_op0211_01 0 12 ++ (sl PySem.Challenge.pw_op0211_01 12 1 ++ (sl PySem.Challenge.pw_op0211_01 13 1 ++ (sl PySem.Challenge.pw_op0211_01 14 24 ++ [])))) (tenv PySem.Challenge.pw_op0211_01) (tcode PySem.Challenge.pw_op0211_01) zp [topFrame zp] from by rw [← splits]]
  refine piece_app (segRun_of (piece1 w os)) ?_
  refine piece_app (segRun_of (piece2 w os)) ?_
  refine piece_app (segRun_of (piece3 w os)) ?_
  refine piece_app (segRun_of (piece4 w os)) ?_
  exact fin w os
noncomputable def Xt (s : Shared) : Bool := xlAt (view PySem.Challenge.pw_op0211_01 keep) [] s && recOk [] s
theorem looks (w : World) : (fun os => ((staticsOk (importedModules PySem.Challenge.pw_op0211_01.main.body) (absHeap (T0 w.params) 34 {}) (absHeap (T4 w.params) 812 {}) && namesBound PySem.Challenge.pw_op0211_01 (absHeap (T4 w.params) 812 {}) && gensDone ⟨absHeap (T4 w.params) 812 {}, #[], {}, 1329, os⟩ && laidKept (absHeap (T0 w.params) 34 {}) (absHeap (T4 w.params) 812 {})),
        openSeen (view PySem.Challenge.pw_op0211_01 keep) loose (importedModules PySem.Challenge.pw_op0211_01.main.body) Xt true ⟨absHeap (T4 w.params) 812 {}, #[], {}, 1329, os⟩, Kas.map (absHeap (T4 w.params) 812 {}).get?)) = fun _ => (true, openGood (view PySem.Challenge.pw_op0211_01 keep) loose, (K w.params).map fun p => some p.2) := by
  unfold Xt
  rw [Fast.te4187177175401517315, Fast.te5923862056798008813]
  kernel_rfl
end Hd
end
-- HeadB
section
namespace Hd
set_option maxHeartbeats 0
theorem left : LeftO PySem.Challenge.pw_op0211_01 (view PySem.Challenge.pw_op0211_01 keep) loose Xt (fun s => Kas.map s.heap.get?) (fun w => (K w.params).map fun p => some p.2) 10520 true := by
  refine LeftO.of_pieces (H₀ := fun P => absHeap (T0 P) 34 {}) (H₁ := fun P => absHeap (T4 P) 812 {}) (gs₀ := #[]) (gs₁ := #[]) (d₀ := {}) (d₁ := {}) (k₀ := 318) (k₁ := 1329) opens sizes runs ?_ looks
  decide
end Hd
end
-- TS
section
theorem law_said : PySem.Challenge.rw_op0211_01.wellSaid = true := by
  refine (congrFun Fast.te9446332074065402090 _).trans ?_
  delta Fast.tw9446332074065402090
  delta Fast.tw17960256430627541270
  delta Fast.tw2436336058641802641
  delta Fast.tw12908688711261696721
  repeat' (with_reducible refine look_both ?_ ?_)
  all_goals decide +kernel
end
-- U1
section
abbrev chS (c : Nat) : Str := ⟨#[c]⟩
def inS (c : Nat) (x : Str) : Bool := decide (c ∈ x.cps.toList)
theorem slice1 {b : Str} {pos : Int} {c : Nat} (hp : 0 ≤ pos) (hc : b.cps[pos.toNat]? = some c) : Txt.slice b (some pos) (some (pos + 1)) = chS c := by
  obtain ⟨k, rfl⟩ := Int.eq_ofNat_of_zero_le hp
  simp only [Int.ofNat_eq_natCast, Int.toNat_natCast] at hc
  have hk : k < b.cps.size := by
    by_cases h : k < b.cps.size
    · exact h
    · rw [Array.getElem?_eq_none (by omega)] at hc; cases hc
  have e := StrLaws.strSliceIndices_plain (a := k) (b := k + 1) (len := b.length) (by omega) (by show k + 1 ≤ b.cps.size; omega)
  have e2 : Builtin.Str.strSliceIndices (some ((k : Int))) (some ((k : Int) + 1)) 1 b.length = [k] := by
    have : ((k : Int) + 1) = ((k + 1 : Nat) : Int) := by omega
    rw [this, e]
    simp
  unfold Txt.slice
  rw [e2]
  by_cases h1 : b.length = 1
  · have hk0 : k = 0 := by have : b.cps.size = 1 := h1; omega
    subst hk0
    rw [if_pos (by simp [h1])]
    cases b with
    | mk cps =>
      have hs : cps.size = 1 := h1
      congr 1
      apply Array.ext
      · simp [hs]
      · intro i h2 h3
        have : i = 0 := by omega
        subst this
        simp only [Array.getElem?_eq_getElem h2, Option.some.injEq] at hc
        simp [hc]
  · rw [if_neg (by simp; omega)]
    simp [hc]
section
variable {prog : Program} {w : World} {A : Around} {E : Value → Shared → Prop} {s : Shared} {x y : Str} {c : Nat} {t u : Tok} {v : Bool}
theorem in_chH {Q : Value → Shared → Prop} (e : inS c x = v) (h : Q (.bool v) s) : wpAny (model prog w) A (compareOp .In (.str (chS c) u) (.str x t)) Q E s := by
  refine in_str ?_
  rw [StrLaws.found_one]
  have : decide (c ∈ x.cps.toList) = v := e
  rw [this]; exact h
theorem notIn_chH {Q : Value → Shared → Prop} (e : inS c x = v) (h : Q (.bool (!v)) s) : wpAny (model prog w) A (compareOp .NotIn (.str (chS c) u) (.str x t)) Q E s := by
  refine notIn_str ?_
  have e2 := StrLaws.found_one x c
  rw [Bool.not_eq_eq_eq_not] at e2
  rw [e2]
  have : decide (c ∈ x.cps.toList) = v := e
  rw [this]
  simp only [Bool.not_not]
  exact h
theorem eq_strH {Q : Value → Shared → Prop} (e : (x == y) = v) (h : Q (.bool v) s) : wpAny (model prog w) A (compareOp .Eq (.str x t) (.str y u)) Q E s := by
  refine eq_str ?_
  rw [e]; exact h
theorem truthy_chS {Q : Bool → Shared → Prop} (h : ∀ k, Q true { s with toks := k }) : wpAny (model prog w) A (truthy (.str (chS c) t)) Q E s :=
  KXt.truthy_pos (K := 1) (by show 1 ≤ 1; omega) (by show 1 ≤ 1; omega) (by omega) h
theorem truthy_strH {Q : Bool → Shared → Prop} (e : ((x.length : Int) != 0) = v) (hl : x.length ≤ 16777216) (h : ∀ k, Q v { s with toks := k }) : wpAny (model prog w) A (truthy (.str x t)) Q E s :=
  KXt.truthy e hl h
end
theorem in_valH {prog : Program} {w : World} {A : Around} {E : Value → Shared → Prop} {s : Shared} {x y : Str} {t u : Tok} {v : Bool} {Q : Value → Shared → Prop} (e : (!(Builtin.Str.occurrences x y 0 x.length 1).isEmpty) = v) (h : Q (.bool v) s) : wpAny (model prog w) A (compareOp .In (.str y u) (.str x t)) Q E s := by
  refine in_str ?_
  rw [e]; exact h
theorem inS_nil (c : Nat) : inS c (Str.ofString "") = false := by
  have : (Str.ofString "").cps.toList = [] := by decide +kernel
  unfold inS
  rw [this]
  simp
theorem iadd_chH {prog : Program} {w : World} {A : Around} {E : Value → Shared → Prop} {s : Shared} {x : Str} {c : Nat} {t u : Tok} {Q : Value → Shared → Prop} (hl : x.length ≤ 1000) (h : ∀ t' tk, Q (.str (x ++ chS c) t') { s with toks := tk }) : wpAny (model prog w) A (inplaceOp .Add (.str x t) (.str (chS c) u)) Q E s :=
  iadd_str h (by have : (chS c).length = 1 := rfl; rw [sizeLine_eq]; omega)
end
-- U2
section
theorem execs_app_wp {M : Model} {A : Around} {E : Value → Shared → Prop} {env : Env} {Q : Flow → Shared → Prop} {l2 : List Stmt} {Γ : PySem.Ctx} (hΓ : Γ.In A) : ∀ (l1 : List Stmt) (p : Pos) (s : Shared),
    Sem.wp M Γ (execs l1 env) (fun f _ s' => match f with | .next => wpAny M A (execs l2 env) Q E s' | f => Q f s') (fun e _ s' => E e s') p s →
    Sem.wp M Γ (execs (l1 ++ l2) env) (fun f _ s' => Q f s') (fun e _ s' => E e s') p s
  | [], p, s, h => by
    have e : execs [] env = pure .next := rfl
    rw [e, Sem.wp_pure'] at h
    exact h Γ p hΓ
  | st :: l1, p, s, h => by
    rw [List.cons_append, execs_cons, Sem.wp_bind']
    rw [execs_cons, Sem.wp_bind'] at h
    refine Sem.wp_mono M Γ _ (fun f p' s' h' => ?_) (fun _ _ _ h' => h') _ _ h
    cases f with
    | next => exact execs_app_wp hΓ l1 p' s' h'
    | _ => exact h'
theorem execs_app {M : Model} {A : Around} {E : Value → Shared → Prop} {env : Env} {Q : Flow → Shared → Prop} {l1 l2 : List Stmt} {s : Shared}
    (h : wpAny M A (execs l1 env) (fun f s' => match f with | .next => wpAny M A (execs l2 env) Q E s' | f => Q f s') E s) : wpAny M A (execs (l1 ++ l2) env) Q E s :=
  fun Γ p hΓ => execs_app_wp hΓ l1 p s (h Γ p hΓ)
theorem while_once {prog : Program} {w : World} {A : Around} {R : Result → Shared → Prop} {s : Shared} {test : Expr} {body orelse : List Stmt} {env : Env}
    (h : wpAny (model prog w) A (isTrue test env (eval test env)) (fun b s₂ =>
        if b then wpAny (model prog w) A (execs body env) (fun f s₃ => match f with
            | .next => codeAny (model prog w) A (.whileLoop test body orelse env) R s₃
            | .cont => codeAny (model prog w) A (.whileLoop test body orelse env) R s₃
            | .brk => R (.ok .next) s₃
            | .ret v => R (.ok (.ret v)) s₃) (notedBy (model prog w) A env fun e s' => R (.error e) s') s₂
        else wpAny (model prog w) A (execs orelse env) (fun f s₃ => R (.ok f) s₃) (notedBy (model prog w) A env fun e s' => R (.error e) s') s₂)
        (notedBy (model prog w) A env fun e s' => R (.error e) s') s) : codeAny (model prog w) A (.whileLoop test body orelse env) R s := by
  refine codeAny_of_tree ?_
  show wpAny _ A ((whileTurn test body orelse env).onRaise (fun x => do noteFrame x env; theTreesLotGoes x)) _ _ s
  refine wpAny_noted ?_
  simp only [whileTurn]
  refine wpAny_bind (wpAny_mono h (fun b s₂ h₂ => ?_) fun _ _ h' => h')
  cases b with
  | false =>
    simp only [Bool.false_eq_true, if_false] at h₂ ⊢
    exact wpAny_bind (wpAny_mono h₂ (fun f s₃ h₃ => wpAny_pure h₃) fun _ _ h' => h')
  | true =>
    simp only [if_true] at h₂ ⊢
    refine wpAny_bind (wpAny_mono h₂ (fun f s₃ h₃ => ?_) fun _ _ h' => h')
    cases f with
    | next => exact wpAny_pure ⟨rfl, h₃⟩
    | cont => exact wpAny_pure ⟨rfl, h₃⟩
    | brk => exact wpAny_pure h₃
    | ret v => exact wpAny_pure h₃
theorem while_true {prog : Program} {w : World} {A : Around} {R : Result → Shared → Prop} {s : Shared} {k : Nat} {pos : Pos} {body orelse : List Stmt} {env : Env}
    (h : wpAny (model prog w) A (execs body env) (fun f s₃ => match f with
            | .next => codeAny (model prog w) A (.whileLoop (.Constant (.bool true) k pos) body orelse env) R s₃
            | .cont => codeAny (model prog w) A (.whileLoop (.Constant (.bool true) k pos) body orelse env) R s₃
            | .brk => R (.ok .next) s₃
            | .ret v => R (.ok (.ret v)) s₃) (notedBy (model prog w) A env fun e s' => R (.error e) s') s) : codeAny (model prog w) A (.whileLoop (.Constant (.bool true) k pos) body orelse env) R s := by
  refine while_once ?_
  refine isTrue_plain ?_
  have hQ := wpAny_truthy_bool (M := model prog w) (A := A) (E := notedBy (model prog w) A env fun e s' => R (.error e) s') (s := s) (b := true) (Q := fun b s₂ =>
        if b then wpAny (model prog w) A (execs body env) (fun f s₃ => match f with
            | .next => codeAny (model prog w) A (.whileLoop (.Constant (.bool true) k pos) body orelse env) R s₃
            | .cont => codeAny (model prog w) A (.whileLoop (.Constant (.bool true) k pos) body orelse env) R s₃
            | .brk => R (.ok .next) s₃
            | .ret v => R (.ok (.ret v)) s₃) (notedBy (model prog w) A env fun e s' => R (.error e) s') s₂
        else wpAny (model prog w) A (execs orelse env) (fun f s₃ => R (.ok f) s₃) (notedBy (model prog w) A env fun e s' => R (.error e) s') s₂) (by rw [if_pos rfl]; exact h)
  exact fun _ _ _ => hQ
end
-- U3
section
abbrev dqObj : Obj := { cls := .type "collections.deque", data := .fields #[.none, rawInt 0] }
theorem noBool_deque : typeLookup (.type "collections.deque") "__bool__" = pure none := by rw [typeLookup_type, builtinLookup_eq_fast]; kernel_rfl
theorem slot_deque_len : Slot "collections.deque" "__len__" "collections.deque.__len__" :=
  .of (owner := "collections.deque") (n := "__len__") (by rw [typeLookup_type, builtinLookup_eq_fast]; kernel_rfl) (by decide +kernel) (by decide +kernel) (by decide +kernel)
    (by first | exact .inl (by decide +kernel) | exact .inr (by decide +kernel)) (by rw [isSubtype_type]; kernel_rfl)
theorem entry_deque_len : entryFor table "collections.deque.__len__" = some Builtin.«collections.deque.__len__» := entryFor_of_fast (by kernel_rfl)
theorem args_deque_len (a : Value) : argsOk "collections.deque.__len__" ⟨[a], []⟩ := by unfold argsOk; kernel_rfl
section
variable {prog : Program} {w : World} {A : Around} {E : Value → Shared → Prop} {s : Shared}
theorem len_body_deque {l : Addr} {Q : Value → Shared → Prop} (hl : s.heap.get? l = some dqObj)
    (h : Q (.int 0 (s.toks + 1)) { s with toks := s.toks + 1 + 1 }) : wpAny (model prog w) A (Builtin.«len» ⟨[.ref l], []⟩) (fun fin s' => ∃ r, fin = .done (.ret r) ∧ Q r s') E s := by
  have hT : s.TypeIs (.ref l) "collections.deque" := (show ∃ o, s.heap.get? l = some o ∧ o.cls = .type "collections.deque" from ⟨_, hl, rfl⟩)
  unfold Builtin.«len»
  refine wpAny_bind (m := oneArg "len" _) (wpAny_pure ?_)
  refine wpAny_bind (m := callSpecial? (.ref l) (Str.ofString "__len__")) (wpAny_callSpecial?_slot (name := Str.ofString "__len__") hT slot_deque_len
    (wpAny_call_entry slot_deque_len hT entry_deque_len ?_ (args_deque_len _)))
  · show wpAny _ _ (do retInt (← Builtin.Deque.size (.ref l))) _ _ s
    unfold Builtin.Deque.size fieldsOf
    refine wpAny_bind (wpAny_bind (wpAny_bind (wpAny_load hl ?_)))
    refine wpAny_pure (wpAny_pure (wpAny_bind (wpAny_mkInt (wpAny_pure ⟨_, rfl, ?_⟩))))
    refine wpAny_bind (wpAny_holding (wpAny_pure ?_))
    refine wpAny_bind (wpAny_letGo ?_)
    show wpAny _ _ (if ((0 : Nat) : Int) < 0 then _ else _) _ _ _
    rw [if_neg (by omega)]
    show wpAny _ _ (if ((0 : Nat) : Int) ≥ 2 ^ 63 then _ else _) _ _ _
    rw [if_neg (by omega)]
    exact wpAny_bind (wpAny_mkInt (wpAny_pure ⟨_, rfl, h⟩))
theorem truthy_deque {l : Addr} {Q : Bool → Shared → Prop} (hl : s.heap.get? l = some dqObj)
    (h : Q false { s with toks := s.toks + 1 + 1 }) : wpAny (model prog w) A (truthy (.ref l)) Q E s := by
  have hT : s.TypeIs (.ref l) "collections.deque" := (show ∃ o, s.heap.get? l = some o ∧ o.cls = .type "collections.deque" from ⟨_, hl, rfl⟩)
  have key : wpAny (model prog w) A (runValue (.builtin "len" ⟨[.ref l], []⟩)) (fun r s' => r = .int 0 (s.toks + 1) ∧ Q false s') E s := by
    refine wpAny_runValue (codeAny_builtin entry_len ?_)
    rw [Around.under_plainId plain_len _]
    exact wpAny_mono (len_body_deque (Q := fun r s' => r = .int 0 (s.toks + 1) ∧ Q false s') hl ⟨rfl, h⟩)
      (fun fin s' h' => by obtain ⟨r, rfl, hq⟩ := h'; exact hq) fun _ _ e => e
  unfold truthy
  first
    | refine wpAny_bind (wpAny_callSpecial?_none (name := Str.ofString "__bool__") hT noBool_deque ?_)
    | refine wpAny_bind (wpAny_pure (wpAny_bind (wpAny_callSpecial?_none (name := Str.ofString "__bool__") hT noBool_deque ?_)))
  first
    | refine wpAny_bind (wpAny_specialOf (name := Str.ofString "__len__") hT slot_deque_len.lookup ?_)
    | refine wpAny_bind (wpAny_pure (wpAny_bind (wpAny_specialOf (name := Str.ofString "__len__") hT slot_deque_len.lookup ?_)))
  first
    | exact wpAny_bind (wpAny_mono key (fun r s' h' => by obtain ⟨rfl, hq⟩ := h'; exact wpAny_pure hq) fun _ _ e => e)
    | exact wpAny_bind (wpAny_pure (wpAny_bind (wpAny_mono key (fun r s' h' => by obtain ⟨rfl, hq⟩ := h'; exact wpAny_pure hq) fun _ _ e => e)))
end
end
-- U4
section
theorem stop_ground {A₀ : Around} {base g G h : Heap} {outer : List Env} {L ad e t : Addr} {m : Str → Option Value} {nm : Str} {sc : Scope} {cdv : Value} {X : String} {vs : List Value} {news : List (Addr × Obj)}
    (R : RaisedS base G (envOf nm sc L ad cdv :: outer) e (.type X) t vs news h) (F : Fr g L G m) (K : Below A₀ base outer g) (hsm : G.UpToSlots h) :
    ∃ g', KtsTurn (outer.filterMap (·.frame)) g g' ∧ Below A₀ base outer g' ∧ Fr g' L h m ∧ News g' L h news ∧ ∃ ob, h.get? e = some ob ∧ ob.cls = .type X := by
  obtain ⟨⟨B, hB, hBG, hl, hfl, hnew⟩, htup⟩ := R
  have hL : B.get? L = none := by
    obtain ⟨_, ⟨L', _, hf, hn', _⟩, _⟩ := hfl.2.2.1
    obtain rfl : L = L' := Option.some.inj hf
    exact hn'
  obtain ⟨g', T', F', K'⟩ := kts_ground K F hBG hfl.1 hsm
  have hf' := flyingW_base hB hfl
  refine ⟨g', T', K', F', fun q hq => ⟨hfl.1 _ _ (hl q hq).1, (fun z => by have := (hl q hq).1; rw [z, hL] at this; cases this), T'.none_ _ (kts_none F.keep (hl q hq).2.1)⟩, hf'.there⟩
theorem Fr.upd {h₀ h : Heap} {L a : Addr} {m : Str → Option Value} (F : Fr h₀ L h m) (f : Obj → Obj) (hL : a ≠ L) (h0 : h₀.get? a = none) : Fr h₀ L (h.update a f) m := by
  refine ⟨?_, fun b o e => ?_, F.above⟩
  · obtain ⟨oL, a1, a2, hL', a3⟩ := F.ns
    exact ⟨oL, a1, a2, (Heap.get?_update_other _ _ hL).trans hL', a3⟩
  · have : a ≠ b := fun z => by rw [z, e] at h0; cases h0
    exact (Heap.get?_update_other _ _ this).trans (F.keep b o e)
theorem News.upd {h₀ h : Heap} {L a : Addr} {o : Obj} {r : List (Addr × Obj)} (N : News h₀ L h ((a, o) :: r)) (f : Obj → Obj) (hr : ∀ q ∈ r, q.1 ≠ a) (hfree : (f o).isFreed = false := by rfl) : News h₀ L (h.update a f) ((a, f o) :: r) := by
  intro q hq
  rcases List.mem_cons.mp hq with rfl | hq
  · have := N _ List.mem_cons_self
    exact ⟨Heap.get?_update_self _ this.1 hfree, this.2.1, this.2.2⟩
  · have := N _ (List.mem_cons_of_mem _ hq)
    exact ⟨(Heap.get?_update_other _ _ (Ne.symm (hr q hq))).trans this.1, this.2.1, this.2.2⟩
end
-- U5
section
theorem mro_deque : mroOf (.type "collections.deque") = pure [.type "collections.deque", .type "object"] := by rw [mroOf_type]; kernel_rfl
theorem lookup_deque_new : typeLookup (.type "collections.deque") "__new__" = pure (some (.builtin "collections.deque.__new__")) := by rw [typeLookup_type, builtinLookup_eq_fast]; kernel_rfl
theorem slot_deque_init : Slot "collections.deque" "__init__" "collections.deque.__init__" :=
  .of (owner := "collections.deque") (n := "__init__") (by rw [typeLookup_type, builtinLookup_eq_fast]; kernel_rfl) (by decide +kernel) (by decide +kernel) (by decide +kernel)
    (by first | exact .inl (by decide +kernel) | exact .inr (by decide +kernel)) (by rw [isSubtype_type]; kernel_rfl)
theorem sub_deque : isSubtype (.type "collections.deque") (.type "collections.deque") = pure true := by rw [isSubtype_type]; kernel_rfl
theorem called_deque : TypeCalled "collections.deque" "collections.deque.__new__" "collections.deque.__init__" :=
  ⟨by decide +kernel, by decide +kernel, ⟨_, _, mro_deque⟩, madeBy_type mro_deque lookup_deque_new (by decide +kernel), by decide +kernel, by rw [isSubtype_type]; kernel_rfl, slot_deque_init⟩
theorem typeCall_deque : checkTypeCall "collections.deque" ⟨[], []⟩ = pure () := by kernel_rfl
theorem newCall_deque : checkBuiltinCall "collections.deque.__new__" ⟨[.type "collections.deque"], []⟩ = pure () := by kernel_rfl
theorem entry_deque_new : entryFor table "collections.deque.__new__" = some Builtin.«collections.deque.__new__» := entryFor_of_fast (by kernel_rfl)
theorem plain_deque_new : plainId "collections.deque.__new__" = true := by decide +kernel
theorem entry_deque_init : entryFor table "collections.deque.__init__" = some Builtin.«collections.deque.__init__» := entryFor_of_fast (by kernel_rfl)
theorem args_deque_init (a : Value) : argsOk "collections.deque.__init__" ⟨[a], []⟩ := by unfold argsOk; kernel_rfl
theorem noDict_deque : typeHasDict (.type "collections.deque") = false := by kernel_rfl
section
variable {prog : Program} {w : World} {A : Around} {E : Value → Shared → Prop} {s : Shared}
theorem code_deque_new {Q₁ : Value → Shared → Prop} (h : Q₁ (.ref s.heap.objs.size) { s with heap := s.heap.push dqObj }) :
    codeAny (model prog w) A (.call (.builtin "collections.deque.__new__") ⟨[.type "collections.deque"], []⟩) (wants Q₁ E) s := by
  refine codeAny_call_builtin plain_deque_new entry_deque_new (wpAny_of_eq newCall_deque ?_)
  have hsub : isSubtype (.type "collections.deque") (.type Builtin.Deque.ty) = pure true := sub_deque
  have hmro := mro_deque
  have hnd := noDict_deque
  obtain ⟨hp, g, d, tk, os⟩ := s
  unfold Builtin.«collections.deque.__new__» Builtin.Deque.newArgs Builtin.Deque.new
  wp_walk
  exact h
theorem deque_init {S : Addr} {R : Fin → Shared → Prop} (hS : s.heap.get? S = some dqObj) (h : R (.done (.ret .none)) { s with heap := s.heap.update S (Obj.mapFields (·.setIfInBounds 0 .none)) }) :
    wpAny (model prog w) A (Builtin.«collections.deque.__init__» ⟨[.ref S], []⟩) R E s := by
  show wpAny _ _ (setField (.ref S) 0 .none >>= fun _ => Builtin.Deque.clear (.ref S) >>= fun _ => ret .none) _ _ _
  refine wpAny_bind (wpAny_setField hS rfl (by decide) ?_)
  have hS2 := Heap.get?_update_self (Obj.mapFields (·.setIfInBounds 0 Value.none)) hS rfl
  unfold Builtin.Deque.clear Builtin.Deque.items fieldsOf
  refine wpAny_bind (wpAny_bind (wpAny_bind (wpAny_bind (wpAny_load hS2 ?_))))
  refine wpAny_pure (wpAny_pure ?_)
  exact wpAny_pure (wpAny_pure h)
theorem call_deque {h₀ : Heap} {L : Addr} {m : Str → Option Value} {news : List (Addr × Obj)} {Q : Value → Shared → Prop} (F : Fr h₀ L s.heap m) (N : News h₀ L s.heap news)
    (h : ∀ (D : Addr) (h' : Heap), Fr h₀ L h' m → News h₀ L h' ((D, dqObj) :: news) → (∀ q ∈ news, q.1 < D) → Q (.ref D) { s with heap := h' }) :
    wpAny (model prog w) A (call (.type "collections.deque") []) Q E s := by
  refine callType_codes (Q₁ := fun obj s₁ => obj = .ref s.heap.objs.size ∧ s₁ = { s with heap := s.heap.push dqObj }) called_deque typeCall_deque entry_deque_init
    (code_deque_new ⟨rfl, rfl⟩) fun obj s₁ h₁ => ?_
  obtain ⟨rfl, rfl⟩ := h₁
  have hS : (s.heap.push dqObj).get? s.heap.objs.size = some dqObj := Heap.get?_push_size _ rfl
  have hk : ∀ b o, s.heap.get? b = some o → ((s.heap.push dqObj).update s.heap.objs.size (Obj.mapFields (·.setIfInBounds 0 .none))).get? b = some o := fun b o e =>
    (Heap.get?_update_other _ _ (Ne.symm (Nat.ne_of_lt (Heap.lt_size e)))).trans (Heap.get?_push_of_some _ e)
  refine ⟨⟨_, hS, rfl⟩, args_deque_init _, deque_init hS ?_⟩
  refine ⟨rfl, h _ _ (F.keeps hk) (news_pushed F N hk ?_ rfl) (fun q hq => Heap.lt_size (N q hq).1)⟩
  exact Heap.get?_update_self _ hS rfl
end
end
-- U6
section
def run2 {α : Type} (K : Frag) (S : Setting) (t : Sem α) (D x : Addr) : Option (Obj × Obj × α) := match peekA K S t with
  | none => none
  | some (o, k) => match peekA K S (k D) with
    | none => none
    | some (o2, k2) => match peek K S (k2 x) with
      | none => none
      | some r => some (o, o2, r)
theorem wp_of_run2 {α : Type} {K : Frag} {M : Model} {A : Around} {E : Value → Shared → Prop} {Q : α → Shared → Prop} {s : Shared} {h₀ : Heap} {L : Addr} {m : Str → Option Value} {news : List (Addr × Obj)} {o : Obj} {o2 : Addr → Obj} {r : Addr → Addr → α} {t : Sem α}
    (F : Fr h₀ L s.heap m) (N : News h₀ L s.heap news) (X : K.In h₀) (hf : o.isFreed = false) (hf2 : ∀ D, (o2 D).isFreed = false)
    (e : ∀ D x, run2 K ⟨M.prog, M.w.params⟩ t D x = some (o, o2 D, r D x))
    (h : ∀ x dx h', Fr h₀ L h' m → News h₀ L h' ((x, o2 dx) :: (dx, o) :: news) → (∀ p ∈ news, p.1 < dx) → @LT.lt Nat _ dx x → Q (r dx x) { s with heap := h' }) : wpAny M A t Q E s := by
  have e0 := e s.heap.objs.size
  unfold run2 at e0
  cases e1 : peekA K ⟨M.prog, M.w.params⟩ t with
  | none => rw [e1] at e0; cases (e0 0)
  | some q =>
    obtain ⟨o', k⟩ := q
    rw [e1] at e0
    dsimp only at e0
    cases e2 : peekA K ⟨M.prog, M.w.params⟩ (k s.heap.objs.size) with
    | none => rw [e2] at e0; cases (e0 0)
    | some q2 =>
      obtain ⟨o2', k2⟩ := q2
      rw [e2] at e0
      dsimp only at e0
      have key : ∀ x, peek K ⟨M.prog, M.w.params⟩ (k2 x) = some (r s.heap.objs.size x) ∧ o' = o ∧ o2' = o2 s.heap.objs.size := by
        intro x
        have := e0 x
        cases e3 : peek K ⟨M.prog, M.w.params⟩ (k2 x) with
        | none => rw [e3] at this; cases this
        | some v =>
          rw [e3] at this
          obtain ⟨a, b⟩ := Prod.mk.inj (Option.some.inj this)
          obtain ⟨b, c⟩ := Prod.mk.inj b
          exact ⟨by rw [c], a, b⟩
      obtain ⟨-, rfl, rfl⟩ := key 0
      refine wp_of_peekA F N (X.keeps F.keep) hf _ _ e1 fun h1 F1 N1 l1 => ?_
      refine wp_of_peekA (s := { s with heap := h1 }) F1 N1 (X.keeps F1.keep) (hf2 _) _ _ e2 fun h2 F2 N2 l2 => ?_
      refine (Looks.of_peek (X.keeps F2.keep) (key _).1).here ?_
      exact h _ _ _ F2 N2 l1 (l2 _ (.head _))
theorem sio_check (P : Params) (S : Setting) : peek (K P) S (checkBuiltinCall "object.__new__" ⟨[.ref 606], []⟩) = some () := by kernel_rfl
theorem sio_new (P : Params) (S : Setting) (D x : Addr) : run2 (K P) S (Builtin.«object.__new__» ⟨[.ref 606], []⟩) D x = some (dictOf [] 0, instObj 606 D, .done (.ret (.ref x))) := by kernel_rfl
section
variable {w : World} {prog : Program} {A : Around} {s : Shared} {h₀ : Heap} {L : Addr} {m : Str → Option Value} {news : List (Addr × Obj)} {R : Result → Shared → Prop}
theorem obj_new_sio (F : Fr h₀ L s.heap m) (X : (K w.params).In h₀) (N : News h₀ L s.heap news)
    (h : ∀ x dx h', Fr h₀ L h' m → News h₀ L h' ((x, instObj 606 dx) :: (dx, dictOf [] 0) :: news) → (∀ p ∈ news, p.1 < dx) → @LT.lt Nat _ dx x → R (.ok (.ret (.ref x))) { s with heap := h' }) :
    codeAny (model prog w) A (.call (.builtin "object.__new__") ⟨[.ref 606], []⟩) R s := by
  have F0 := PySem.F.objNew
  refine codeAny_call_builtin_code (Code.quiet_builtin _ F0.quiet) ?_
  refine (Looks.of_peek (M := model prog w) (X.keeps F.keep) (sio_check _ _)).here ?_
  refine codeAny_builtin F0.entry ?_
  exact wp_of_run2 (M := model prog w) (o := dictOf [] 0) (o2 := fun D => instObj 606 D) (r := fun _ x => .done (.ret (.ref x))) F N X rfl (fun _ => rfl) (sio_new _ _) (by intro x dx h' a b c d; exact h x dx h' a b c d)
end
end
-- U7
section
open PySem.Sre in
section
abbrev rc : Array Nat := #[14, 17, 4, 1, 1, 21, 9, 0, 604043296, 1, 0, 0, 0, 0, 0, 8, 4, 0, 13, 14, 21, 9, 0, 604043296, 1, 0, 0, 0, 0, 0, 8, 4, 0, 1]
def saf (c : Nat) : Bool := (decide (c < 256) && (rc.getD (6 + (1 + c / 32)) 0).testBit (c % 32)) || Sre.isWord c
theorem inSetA (c : Nat) (σ : Sre.Seen) : ∃ τ, Sre.inSet rc c 34 5 true σ = .ok (!saf c, τ) := by
  unfold saf
  show ∃ τ, (if (decide (c < 256) && (rc.getD (6 + (1 + c / 32)) 0).testBit (c % 32)) = true then Except.ok (false, _) else ((Except.ok (Sre.isWord c != false)) >>= fun b => if b = true then pure (false, _) else Except.ok (!false, _))) = _
  cases h : (decide (c < 256) && (rc.getD (6 + (1 + c / 32)) 0).testBit (c % 32)) with
  | true => exact ⟨_, rfl⟩
  | false =>
    cases h2 : Sre.isWord c with
    | true => exact ⟨_, rfl⟩
    | false => exact ⟨_, rfl⟩
theorem inSetB (c : Nat) (σ : Sre.Seen) : ∃ τ, Sre.inSet rc c 34 20 true σ = .ok (!saf c, τ) := by
  unfold saf
  show ∃ τ, (if (decide (c < 256) && (rc.getD (21 + (1 + c / 32)) 0).testBit (c % 32)) = true then Except.ok (false, _) else ((Except.ok (Sre.isWord c != false)) >>= fun b => if b = true then pure (false, _) else Except.ok (!false, _))) = _
  have e : (decide (c < 256) && (rc.getD (21 + (1 + c / 32)) 0).testBit (c % 32)) = (decide (c < 256) && (rc.getD (6 + (1 + c / 32)) 0).testBit (c % 32)) := by
    by_cases h : c < 256
    · have hk : c / 32 < 8 := by omega
      generalize c / 32 = k at hk
      have : rc.getD (21 + (1 + k)) 0 = rc.getD (6 + (1 + k)) 0 := by
        have : ∀ k < 8, rc.getD (21 + (1 + k)) 0 = rc.getD (6 + (1 + k)) 0 := by decide
        exact this k hk
      rw [this]
    · simp [h]
  rw [e]
  cases h : (decide (c < 256) && (rc.getD (6 + (1 + c / 32)) 0).testBit (c % 32)) with
  | true => exact ⟨_, rfl⟩
  | false =>
    cases h2 : Sre.isWord c with
    | true => exact ⟨_, rfl⟩
    | false => exact ⟨_, rfl⟩
theorem admit (m : Sre.M) (hm : m.code = rc) : ∀ (fuel s : Nat) (σ : Sre.Seen), m.lim < s + fuel →
    (∃ i τ, Sre.M.admitted m fuel s σ = .ok (some i, τ) ∧ i < m.lim ∧ saf (m.text.getD i 0) = false) ∨
    (∃ τ, Sre.M.admitted m fuel s σ = .ok (none, τ) ∧ ∀ i, s ≤ i → i < m.lim → saf (m.text.getD i 0) = true)
  | 0, s, σ, h => .inr ⟨σ, rfl, fun i a b => by omega⟩
  | fuel + 1, s, σ, h => by
    by_cases hs : s ≥ m.lim
    · refine .inr ⟨σ, ?_, fun i a b => by omega⟩
      unfold Sre.M.admitted
      rw [if_pos hs]
    · obtain ⟨τ, e⟩ := inSetA (m.text.getD s 0) σ
      have e' : Sre.inSet m.code (m.text.getD s 0) m.code.size 5 true σ = .ok (!saf (m.text.getD s 0), τ) := by rw [hm]; exact e
      cases hq : saf (m.text.getD s 0) with
      | false =>
        refine .inl ⟨s, τ, ?_, by omega, hq⟩
        unfold Sre.M.admitted
        rw [if_neg hs, e', hq]
        rfl
      | true =>
        have st : Sre.M.admitted m (fuel + 1) s σ = Sre.M.admitted m fuel (s + 1) τ := by
          conv => lhs; unfold Sre.M.admitted
          rw [if_neg hs, e', hq]
          rfl
        rw [st]
        rcases admit m hm fuel (s + 1) τ (by omega) with h1 | ⟨τ', h1, h2⟩
        · exact .inl h1
        · refine .inr ⟨τ', h1, fun i a b => ?_⟩
          by_cases hi : i = s
          · rw [hi]; exact hq
          · exact h2 i (by omega) b
end
end
-- U8
section
section
def mS (text : Array Nat) (lim : Nat) : Sre.M := { code := rc, text, lim, start := 0, pc := 18, pos := 0, handed := 0, marks := Array.replicate 0 none, mustAdvance := false, seen := ({} : Sre.Seen).add 14, lastStart := lim }
theorem forS (text : Array Nat) (lim : Nat) (h : 1 ≤ lim) : Sre.forSearch rc text 0 0 lim false = (mS text lim).attemptFrom 0 true := by
  have e : (decide (0 > lim) || decide (lim - 0 < 1)) = false := by simp; omega
  show (if (decide (0 > lim) || decide (lim - 0 < 1)) = true then _ else _) = _
  rw [e]
  rfl
def mA (text : Array Nat) (lim i : Nat) (τ : Sre.Seen) : Sre.M := { code := rc, text, lim, start := i, pc := 18, pos := i, handed := i, marks := Array.replicate 0 none, mustAdvance := false, seen := τ, lastStart := lim, outermost := true, weight := 1, frames := [{ wait := .nextStart, pc := 18, pos := i, outermost := true }] }
theorem atF (text : Array Nat) (lim : Nat) :
    (∃ i τ, (mS text lim).attemptFrom 0 true = mA text lim i τ ∧ i < lim ∧ saf (text.getD i 0) = false) ∨
    (∃ τ, (mS text lim).attemptFrom 0 true = { mS text lim with seen := τ }.say false ∧ ∀ i, i < lim → saf (text.getD i 0) = true) := by
  have hf : (mS text lim).hasFirstSet = true := rfl
  rcases admit (mS text lim) rfl (lim + 1 - 0) 0 (mS text lim).seen (by show lim < 0 + (lim + 1 - 0); omega) with ⟨i, τ, e, h1, h2⟩ | ⟨τ, e, h1⟩
  · refine .inl ⟨i, τ, ?_, h1, h2⟩
    unfold Sre.M.attemptFrom
    rw [hf]
    show (match Sre.M.admitted (mS text lim) (lim + 1 - 0) 0 (mS text lim).seen with | .ok (some s, seen) => _ | .ok (none, seen) => _ | .error why => _) = _
    rw [e]
    rfl
  · refine .inr ⟨τ, ?_, fun i hi => h1 i (Nat.zero_le _) hi⟩
    unfold Sre.M.attemptFrom
    rw [hf]
    show (match Sre.M.admitted (mS text lim) (lim + 1 - 0) 0 (mS text lim).seen with | .ok (some s, seen) => _ | .ok (none, seen) => _ | .error why => _) = _
    rw [e]
theorem runA (text : Array Nat) (lim i : Nat) (τ : Sre.Seen) (h1 : i < lim) (h2 : saf (text.getD i 0) = false) : ((mA text lim i τ).runFor 4).outcome = some .matched := by
  obtain ⟨σ, e⟩ := inSetB (text.getD i 0) (τ.add 13)
  rw [h2] at e
  have s1 : (mA text lim i τ).step = { mA text lim i τ with seen := σ, pc := 33, pos := i + 1 } := by
    show (if i ≥ lim then _ else match Sre.inSet rc (text.getD i 0) 34 20 true (τ.add 13) with | .error why => _ | .ok (false, seen) => _ | .ok (true, seen) => _) = _
    rw [if_neg (by omega), e]
    rfl
  have : (mA text lim i τ).runFor 4 = ({ mA text lim i τ with seen := σ, pc := 33, pos := i + 1 } : Sre.M).runFor 3 := by
    show (mA text lim i τ).step.runFor 3 = _
    rw [s1]
  rw [this]
  rfl
theorem runN (text : Array Nat) (lim : Nat) (τ : Sre.Seen) : (({ mS text lim with seen := τ }.say false).runFor 4).outcome = some .failed := rfl
end
end
-- U9
section
theorem fu_call (P : Params) (S : Setting) (b : Str) (tb : Tok) : peek (K P) S (callAny (.ref 761) ⟨[.str b tb], []⟩) = some (.again (.builtin "re.Pattern.search" ⟨[.ref 58, .str b tb], []⟩)) := by kernel_rfl
theorem fu_target (P : Params) (S : Setting) (b : Str) (tb : Tok) : peek (K P) S (Builtin.Re.reTarget "re.Pattern.search" "search" ⟨[.ref 58, .str b tb], []⟩) = some { pattern := .ref 58, string := .str b tb, code := rc, text := b.cps, kind := 0, groups := 0, pos := 0, lim := min (2 ^ 63 - 1) b.cps.size } := by kernel_rfl
end
-- U10
section
theorem rules_loop {M : Model} {A : Around} {E : Value → Shared → Prop} {s : Shared} (c : Nat → Bool) (n : Nat → String) : ∀ (l : List Nat) {Q : PUnit → Shared → Prop}, Q () s →
    wpAny M A (forIn l PUnit.unit fun i (_ : PUnit) => if c i = true then (do rule (n i); pure (ForInStep.yield PUnit.unit)) else pure (ForInStep.yield PUnit.unit)) Q E s
  | [], Q, h => by rw [List.forIn_nil]; exact wpAny_pure h
  | i :: l, Q, h => by
    rw [List.forIn_cons]
    refine wpAny_bind ?_
    have ih := rules_loop (M := M) (A := A) (E := E) c n l h
    split
    · exact wpAny_bind (wpAny_rule (wpAny_pure ih))
    · exact wpAny_pure ih
theorem drive {M : Model} {A : Around} {E : Value → Shared → Prop} {s : Shared} {m : Sre.M} {r : Sre.M} {Q : Sre.M → Shared → Prop} (e : m.runFor 4 = r) (ho : r.outcome.isSome = true) (h : Q r s) : wpAny M A (Builtin.Re.reDrive (2 ^ 64) m) Q E s := by
  show wpAny M A (Builtin.Re.reDrive ((2 ^ 64 - 1) + 1) m) Q E s
  generalize 2 ^ 64 - 1 = k
  show wpAny M A (if (m.runFor 4).outcome.isSome = true then pure (m.runFor 4) else _) Q E s
  rw [e, if_pos ho]
  exact wpAny_pure h
theorem toEnd {M : Model} {A : Around} {E : Value → Shared → Prop} {s : Shared} {m : Sre.M} {o : Sre.Outcome} {Q : Option Sre.M → Shared → Prop} (e : (m.runFor 4).outcome = some o) (h : match o with | .matched => Q (some (m.runFor 4)) s | .failed => Q none s | _ => False) : wpAny M A (Builtin.Re.reRunToEnd m) Q E s := by
  unfold Builtin.Re.reRunToEnd
  refine wpAny_bind (drive rfl (by rw [e]; rfl) ?_)
  refine wpAny_bind (rules_loop _ _ _ ?_)
  rw [e]
  cases o with
  | matched => exact wpAny_pure h
  | failed => exact wpAny_pure h
  | stuck _ => exact h.elim
theorem search_run {M : Model} {A : Around} {E : Value → Shared → Prop} {s : Shared} {Q : Option Sre.M → Shared → Prop} (text : Array Nat) (lim : Nat) (hl : 1 ≤ lim)
    (h1 : ∀ m i, i < lim → saf (text.getD i 0) = false → Q (some m) s) (h2 : (∀ i, i < lim → saf (text.getD i 0) = true) → Q none s) :
    wpAny M A (Builtin.Re.reRunToEnd (Sre.forSearch rc text 0 0 lim false)) Q E s := by
  rw [forS text lim hl]
  rcases atF text lim with ⟨i, τ, e, a, b⟩ | ⟨τ, e, a⟩
  · rw [e]
    exact toEnd (runA text lim i τ a b) (h1 _ i a b)
  · rw [e]
    exact toEnd (runN text lim τ) (h2 a)
end
-- U11
section
def tupO (m : Sre.M) : Obj := { cls := .type "tuple", data := .seq #[rawInt m.start, rawInt m.handed] }
def matO (b : Str) (tb : Tok) (lim : Nat) (m : Sre.M) (D : Addr) : Obj := { cls := .type "re.Match", data := .fields #[.str b tb, .ref 58, rawInt 0, rawInt lim, rawInt m.lastindex, .ref D] }
theorem fu_match (P : Params) (S : Setting) (b : Str) (tb : Tok) (lim : Nat) (m : Sre.M) (D x : Addr) : run2 (K P) S (Builtin.Re.reNewMatch (.ref 58) (.str b tb) 0 0 lim m) D x = some (tupO m, matO b tb lim m D, .ref x) := by kernel_rfl
theorem fu_keeper (P : Params) (S : Setting) : peek (K P) S (keeperOf (.ref 761)) = some .machine := by kernel_rfl
theorem fu_entry : entryFor table "re.Pattern.search" = some Builtin.«re.Pattern.search» := by first | exact entryFor_of_fast (by kernel_rfl) | exact entryFor_of_tree (by kernel_rfl)
theorem fu_quiet (b : Str) (tb : Tok) : (Code.builtin "re.Pattern.search" ⟨[.ref 58, .str b tb], []⟩).quiet = true := by kernel_rfl
section
variable {w : World} {prog : Program} {A : Around} {s : Shared} {h₀ : Heap} {L : Addr} {m : Str → Option Value} {news : List (Addr × Obj)} {Q E : Value → Shared → Prop} {b : Str} {tb : Tok}
theorem call_fu (F : Fr h₀ L s.heap m) (X : (K w.params).In h₀) (N : News h₀ L s.heap news) (h0 : 1 ≤ b.cps.size) (h3 : b.cps.size ≤ 1000)
    (h1 : ∀ i, i < b.cps.size → saf (b.cps.getD i 0) = false → ∀ x h', Fr h₀ L h' m → News h₀ L h' news → Q (.ref x) { s with heap := h' })
    (h2 : (∀ i, i < b.cps.size → saf (b.cps.getD i 0) = true) → Q .none s) : wpAny (model prog w) A (call (.ref 761) [.str b tb]) Q E s := by
  refine wpAny_call ?_
  refine codeAny_of_tree ?_
  refine (Looks.of_peek (M := model prog w) (X.keeps F.keep) (fu_call _ _ b tb)).here ?_
  refine ⟨fu_quiet b tb, ?_⟩
  refine codeAny_builtin fu_entry ?_
  unfold Builtin.«re.Pattern.search»
  refine wpAny_bind ((Looks.of_peek (M := model prog w) (X.keeps F.keep) (fu_target _ _ b tb)).here ?_)
  dsimp only
  unfold Builtin.Re.reAnswer
  have el : min (2 ^ 63 - 1) b.cps.size = b.cps.size := by omega
  rw [el]
  refine wpAny_bind (search_run b.cps b.cps.size h0 ?_ ?_)
  · intro m' i hi hs
    dsimp only
    refine wpAny_bind ?_
    refine wp_of_run2 (M := model prog w) (o := tupO m') (o2 := matO b tb b.cps.size m') (r := fun _ x => .ref x) F N X rfl (fun _ => rfl) (fun D x => fu_match _ _ b tb _ m' D x) ?_
    intro x dx h' F' N' l1 l2
    exact wpAny_pure (h1 i hi hs x h' F' (cb_drop N' fun q hq => .tail _ (.tail _ hq)))
  · intro hall
    exact wpAny_pure (h2 hall)
end
end
-- U12
section
def qc (c : Nat) : List Nat := if c = 39 then [39, 34, 39, 34, 39] else [c]
open Builtin Builtin.Str in
theorem sub39 (x : Str) (i : Nat) : subAt x (Str.ofString "'") i = decide (x.cps[i]? = some 39) := by
  have := StrLaws.subAt_one x 39 i
  rw [Bool.eq_iff_iff, decide_eq_true_eq]
  rw [Array.getElem?_toList] at this
  rw [← this]
  refine ⟨fun h => ⟨?_, h⟩, fun h => h.2⟩
  have h2 : x.cps.extract i (i + 1) = #[39] := by
    have : (x.cps.extract i (i + 1) == #[39]) = true := h
    exact eq_of_beq this
  have h3 := congrArg Array.size h2
  simp at h3
  show i + 1 ≤ x.cps.size
  omega
open Builtin Builtin.Str in
theorem repl3 (a b c : Nat) : (Txt.replace ⟨#[a, b, c]⟩ (Str.ofString "'") (Str.ofString "'\"'\"'")).cps.toList = qc a ++ qc b ++ qc c := by
  have e : (Str.ofString "'").length = 1 := by decide
  have e2 : (Str.ofString "'\"'\"'").length = 5 := by decide
  have e3 : (Str.ofString "'\"'\"'").cps = #[39, 34, 39, 34, 39] := by decide
  have l3 : (⟨#[a, b, c]⟩ : Str).length = 3 := rfl
  unfold Txt.replace occurrences
  simp only [sub39, e, e2, l3]
  by_cases h1 : a = 39 <;> by_cases h2 : b = 39 <;> by_cases h3 : c = 39 <;> 
    simp [h1, h2, h3, Std.Legacy.Range.forIn_eq_forIn_range', List.range'_succ, qc, glued, partsBetween, e3, strSub, Str.length]
open Builtin Builtin.Str in
theorem repl2 (a b : Nat) : (Txt.replace ⟨#[a, b]⟩ (Str.ofString "'") (Str.ofString "'\"'\"'")).cps.toList = qc a ++ qc b := by
  have e : (Str.ofString "'").length = 1 := by decide
  have e2 : (Str.ofString "'\"'\"'").length = 5 := by decide
  have e3 : (Str.ofString "'\"'\"'").cps = #[39, 34, 39, 34, 39] := by decide
  have l3 : (⟨#[a, b]⟩ : Str).length = 2 := rfl
  unfold Txt.replace occurrences
  simp only [sub39, e, e2, l3]
  by_cases h1 : a = 39 <;> by_cases h2 : b = 39 <;> 
    simp [h1, h2, Std.Legacy.Range.forIn_eq_forIn_range', List.range'_succ, qc, glued, partsBetween, e3, strSub, Str.length]
open Builtin Builtin.Str in
theorem repl1 (a : Nat) : (Txt.replace ⟨#[a]⟩ (Str.ofString "'") (Str.ofString "'\"'\"'")).cps.toList = qc a := by
  have e : (Str.ofString "'").length = 1 := by decide
  have e2 : (Str.ofString "'\"'\"'").length = 5 := by decide
  have e3 : (Str.ofString "'\"'\"'").cps = #[39, 34, 39, 34, 39] := by decide
  have l3 : (⟨#[a]⟩ : Str).length = 1 := rfl
  unfold Txt.replace occurrences
  simp only [sub39, e, e2, l3]
  by_cases h1 : a = 39 <;> 
    simp [h1, Std.Legacy.Range.forIn_eq_forIn_range', List.range'_succ, qc, glued, partsBetween, e3, strSub, Str.length]
theorem replN (x : Str) (h0 : 1 ≤ x.cps.size) (h3 : x.cps.size ≤ 3) : (Txt.replace x (Str.ofString "'") (Str.ofString "'\"'\"'")).cps.toList = x.cps.toList.flatMap qc := by
  obtain ⟨⟨l⟩⟩ := x
  match l, h0, h3 with
  | [a], _, _ => rw [repl1]; simp
  | [a, b], _, _ => rw [repl2]; simp
  | [a, b, c], _, _ => rw [repl3]; simp
/-- what quote writes -/
def qt (l : List Nat) : List Nat := if l = [] then [39, 39] else if l.all saf then l else 39 :: l.flatMap qc ++ [39]
end
-- U13
section
def sim1 {α : Type} (K : Frag) (S : Setting) (x : Addr) : Sem α → List Bool → Tok → Obj → Option (List Addr × Obj × Tok × α)
  | .pure a, _, t, o => some ([], o, t, a)
  | .rule _ k, c, t, o => sim1 K S x (k ()) c t o
  | .point _ k, c, t, o => sim1 K S x (k ()) c t o
  | .at _ k, c, t, o => sim1 K S x (k ()) c t o
  | .ask k, c, t, o => sim1 K S x (k S) c t o
  | .thread k, c, t, o => sim1 K S x (k 0) c t o
  | .fresh k, c, t, o => sim1 K S x (k t) c (t + 1) o
  | .load a _ k, c, t, o => (match c with
      | true :: c => (sim1 K S x (k o) c t o).map fun r => (a :: r.1, r.2)
      | false :: c => (match K.lookup a with
        | some o' => sim1 K S x (k o') c t o
        | none => none)
      | [] => none)
  | .update a _ f k, c, t, o => (match c with
      | true :: c => if (f o).isFreed then none else (sim1 K S x (k ()) c t (f o)).map fun r => (a :: r.1, r.2)
      | _ => none)
  | _, _, _, _ => none
theorem sim1_load {α : Type} {K : Frag} {S : Setting} {x a : Addr} {v : Option Value} {k : Obj → Sem α} {c : List Bool} {t : Tok} {o : Obj} : sim1 K S x (.load a v k) (false :: c) t o = (K.lookup a).bind fun o' => sim1 K S x (k o') c t o := by kernel_rfl
theorem sim1_wp' {α : Type} {K : Frag} {M : Model} {Γ : Ctx} {E : Value → Shared → Prop} {Q : α → Shared → Prop} {h₀ : Heap} {L x : Addr} {m : Str → Option Value} {rest : List (Addr × Obj)} (X : K.In h₀) (hr : ∀ q ∈ rest, q.1 ≠ x) :
    ∀ (t : Sem α) (c : List Bool) (s : Shared) (p : Pos) (o : Obj) (as : List Addr) (o' : Obj) (tk' : Tok) (r : α), Fr h₀ L s.heap m → News h₀ L s.heap ((x, o) :: rest) → sim1 K ⟨M.prog, M.w.params⟩ x t c s.toks o = some (as, o', tk', r) → (∀ a ∈ as, a = x) →
      (∀ h', Fr h₀ L h' m → News h₀ L h' ((x, o') :: rest) → Q r { s with heap := h', toks := tk' }) → Sem.wp M Γ t (fun a _ s' => Q a s') (fun e _ s' => E e s') p s := by
  intro t
  induction t with
  | pure a =>
    intro c s p o as o' tk' r F N e ha h
    replace e : some (([], o, s.toks, a) : (List Addr × Obj × Tok × α)) = some (as, o', tk', r) := e
    simp only [Option.some.injEq, Prod.mk.injEq] at e
    obtain ⟨-, rfl, rfl, rfl⟩ := e
    exact h s.heap F N
  | rule _ k ih => intro c s p o as o' tk' r F N e ha h; exact ih () c s p o as o' tk' r F N e ha h
  | point _ k ih => intro c s p o as o' tk' r F N e ha h; exact ih () c s p o as o' tk' r F N e ha h
  | «at» p' k ih => intro c s p o as o' tk' r F N e ha h; exact ih () c s p' o as o' tk' r F N e ha h
  | ask k ih => intro c s p o as o' tk' r F N e ha h; exact ih _ c s p o as o' tk' r F N e ha h
  | thread k ih => intro c s p o as o' tk' r F N e ha h; exact ih _ c s p o as o' tk' r F N e ha h
  | fresh k ih => intro c s p o as o' tk' r F N e ha h; exact ih _ c { s with toks := s.toks + 1 } p o as o' tk' r F N e ha h
  | load a _ k ih =>
    intro c s p o as o' tk' r F N e ha h
    cases c with
    | nil => cases (show (none : Option (List Addr × Obj × Tok × α)) = some (as, o', tk', r) from e)
    | cons b c =>
      cases b with
      | true =>
        replace e : (sim1 K ⟨M.prog, M.w.params⟩ x (k o) c s.toks o).map (fun r => (a :: r.1, r.2)) = some (as, o', tk', r) := e
        simp only [Option.map_eq_some_iff] at e
        obtain ⟨q, e, e2⟩ := e
        simp only [Prod.mk.injEq] at e2
        obtain ⟨rfl, e3⟩ := e2
        have hax : a = x := ha a (.head _)
        refine ⟨o, by rw [hax]; exact (N _ (.head _)).1, ih o c s p o q.1 o' tk' r F N ?_ (fun b hb => ha b (.tail _ hb)) h⟩
        rw [e]
        exact congrArg some (Prod.ext rfl e3)
      | false =>
        obtain ⟨ob, hob, e⟩ := Option.bind_eq_some_iff.mp (sim1_load.symm.trans e)
        exact ⟨ob, F.keep _ _ (X _ _ hob), ih ob c s p o as o' tk' r F N e ha h⟩
  | update a _ f k ih =>
    intro c s p o as o' tk' r F N e ha h
    cases c with
    | nil => cases (show (none : Option (List Addr × Obj × Tok × α)) = some (as, o', tk', r) from e)
    | cons b c =>
      cases b with
      | false => cases (show (none : Option (List Addr × Obj × Tok × α)) = some (as, o', tk', r) from e)
      | true =>
        replace e : (if (f o).isFreed then none else (sim1 K ⟨M.prog, M.w.params⟩ x (k ()) c s.toks (f o)).map fun r => (a :: r.1, r.2)) = some (as, o', tk', r) := e
        split at e
        · cases e
        · rename_i hfr
          simp only [Option.map_eq_some_iff] at e
          obtain ⟨q, e, e2⟩ := e
          simp only [Prod.mk.injEq] at e2
          obtain ⟨rfl, e3⟩ := e2
          have hax : a = x := ha a (.head _)
          subst hax
          have z := N _ (.head _)
          refine ⟨by rw [z.1]; rfl, ih () c { s with heap := s.heap.update a f } p (f o) q.1 o' tk' r (Fr.upd F f z.2.1 z.2.2) (News.upd N f hr (by simpa using hfr)) ?_ (fun b hb => ha b (.tail _ hb)) h⟩
          (show sim1 _ _ _ _ _ s.toks _ = _)
          rw [e]
          exact congrArg some (Prod.ext rfl e3)
  | _ => intro c s p o as o' tk' r F N e ha h; cases (show (none : Option (List Addr × Obj × Tok × α)) = some (as, o', tk', r) from e)
theorem sim1_wp {α : Type} {K : Frag} {M : Model} {A : Around} {E : Value → Shared → Prop} {Q : α → Shared → Prop} {s : Shared} {h₀ : Heap} {L x : Addr} {m : Str → Option Value} {rest : List (Addr × Obj)} {t : Sem α} {o o' : Obj} {as : List Addr} {tk' : Tok} {r : α} (c : List Bool)
    (F : Fr h₀ L s.heap m) (X : K.In h₀) (N : News h₀ L s.heap ((x, o) :: rest)) (hr : ∀ q ∈ rest, q.1 ≠ x) (e : sim1 K ⟨M.prog, M.w.params⟩ x t c s.toks o = some (as, o', tk', r)) (ha : ∀ a ∈ as, a = x)
    (h : ∀ h', Fr h₀ L h' m → News h₀ L h' ((x, o') :: rest) → Q r { s with heap := h', toks := tk' }) : wpAny M A t Q E s :=
  fun Γ p _ => sim1_wp' X hr t c s p o as o' tk' r F N e ha h
end
-- U14
section
def badIds : List String := "bytearray.__contains__" :: "bytearray.__mod__" :: "bytearray.__rmod__" :: "_struct.pack_into.held" :: "bytearray.find.held" :: Builtin.Bytes.decodersThatHold
def okN : Code → Bool
  | .builtin id _ => !badIds.contains id
  | _ => true
def NoDec (Γ : Ctx) : Prop := okN Γ.code = true ∧ ∀ c ∈ Γ.below, okN c.1 = true
def wpN {α : Type} (M : Model) (A : Around) (t : Sem α) (Q : α → Shared → Prop) (E : Value → Shared → Prop) (s : Shared) : Prop :=
  ∀ Γ p, Γ.In A → NoDec Γ → Sem.wp M Γ t (fun a _ s' => Q a s') (fun e _ s' => E e s') p s
def codeN (M : Model) (A : Around) (c : Code) (R : Result → Shared → Prop) (s : Shared) : Prop :=
  ∀ Γ p, Γ.code = c → Γ.Below A → (∀ c ∈ Γ.below, okN c.1 = true) → wpCode M Γ R p s
theorem NoDec.enter {Γ : Ctx} (h : NoDec Γ) (c : Code) (hd : Option Value) (p : Pos) : ∀ c' ∈ (Γ.enter c hd p).below, okN c'.1 = true := by
  intro c' hc
  have hc : c' ∈ (Γ.code, p) :: Γ.below := hc
  rcases List.mem_cons.mp hc with rfl | hc
  · exact h.1
  · exact h.2 _ hc
section
variable {α β : Type} {M : Model} {A : Around} {E : Value → Shared → Prop} {s : Shared}
theorem wpN_any {t : Sem α} {Q : α → Shared → Prop} (h : wpAny M A t Q E s) : wpN M A t Q E s := fun Γ p hΓ _ => h Γ p hΓ
theorem codeN_any {c : Code} {R : Result → Shared → Prop} (h : codeAny M A c R s) : codeN M A c R s := fun Γ p hc hΓ _ => h Γ p hc hΓ
theorem wpN_pure {a : α} {Q : α → Shared → Prop} (h : Q a s) : wpN M A (pure a) Q E s := fun _ _ _ _ => h
theorem wpN_mono {t : Sem α} {Q Q' : α → Shared → Prop} {E' : Value → Shared → Prop} (h : wpN M A t Q E s) (hQ : ∀ a s, Q a s → Q' a s) (hE : ∀ e s, E e s → E' e s) : wpN M A t Q' E' s :=
  fun Γ p hΓ hN => Sem.wp_mono M Γ t (fun a _ s => hQ a s) (fun e _ s => hE e s) p s (h Γ p hΓ hN)
theorem codeN_mono {c : Code} {R R' : Result → Shared → Prop} (h : codeN M A c R s) (hR : ∀ r s, R r s → R' r s) : codeN M A c R' s :=
  fun Γ p hc hΓ hN => wpCode_mono hR (h Γ p hc hΓ hN)
theorem wpN_bind {m : Sem α} {f : α → Sem β} {Q : β → Shared → Prop} (h : wpN M A m (fun a s' => wpN M A (f a) Q E s') E s) : wpN M A (m >>= f) Q E s := fun Γ p hΓ hN => by
  rw [Sem.wp_bind']
  exact Sem.wp_mono M Γ m (fun a p' s' h' => h' Γ p' hΓ hN) (fun _ _ _ h' => h') p s (h Γ p hΓ hN)
theorem wpN_holding {vs : List Value} {m : Sem α} {Q : α → Shared → Prop} (h : wpN M A m Q E s) : wpN M A (holding vs m) Q E s :=
  fun Γ p hΓ hN => by rw [Sem.wp_holding]; exact h Γ p hΓ hN
theorem wpN_onRaise {m : Sem α} {k : Value → Sem Unit} {Q : α → Shared → Prop}
    (h : wpN M A m Q (fun e s' => wpAny M A (k e) (fun _ s'' => E e s'') E s') s) : wpN M A (m.onRaise k) Q E s := fun Γ p hΓ hN => by
  rw [Sem.wp_onRaise]
  exact Sem.wp_mono M Γ m (fun _ _ _ h' => h') (fun e p' s' h' => h' Γ p' hΓ) p s (h Γ p hΓ hN)
theorem wpN_attempt {m : Sem α} {Q : Except Value α → Shared → Prop} (h : wpN M A m (fun a => Q (.ok a)) (fun e => Q (.error e)) s) :
    wpN M A m.attempt Q E s := fun Γ p hΓ hN => by rw [Sem.wp_attempt]; exact h Γ p hΓ hN
theorem wpN_tryCatch {m : Sem α} {k : Value → Sem α} {Q : α → Shared → Prop} (h : wpN M A m Q (fun e s' => wpN M A (k e) Q E s') s) :
    wpN M A (tryCatch m k) Q E s := fun Γ p hΓ hN => by
  rw [Sem.wp_tryCatch']
  exact Sem.wp_mono M Γ m (fun _ _ _ h' => h') (fun e p' s' h' => h' Γ p' hΓ hN) p s (h Γ p hΓ hN)
theorem wpN_run {c : Code} {h : Option Value} {Q : Flow → Shared → Prop}
    (hc : codeN M (A.mark h) c (fun r s' => match r with | .ok f => Q f s' | .error e => E e s') s) (hnb : h ≠ some byPass := by intro x; cases x) :
    wpN M A (run c h) Q E s :=
  fun Γ p hΓ hN => by rw [Sem.wp_run]; exact hc _ p rfl (hΓ.enter c h p hnb) (hN.enter c h p)
theorem wpN_runOwn {env : Env} {c : Code} {h : Option Value} {Q : Flow → Shared → Prop}
    (hc : codeN M (A.mark h) c (fun r s' => match r with | .ok f => Q f s' | .error e => cameBackBy M A env E e s') s) (hnb : h ≠ some byPass := by intro x; cases x) :
    wpN M A (runOwn c env h) Q E s := by
  unfold runOwn
  exact wpN_onRaise (wpN_run hc hnb)
theorem wpN_runValue {c : Code} {Q : Value → Shared → Prop}
    (hc : codeN M A c (fun r s' => match r with | .ok (.ret v) => Q v s' | .ok _ => False | .error e => E e s') s) :
    wpN M A (runValue c) Q E s := fun Γ p hΓ hN => by rw [Sem.wp_runValue]; exact hc _ p rfl (hΓ.enter c none p (by intro x; cases x)) (hN.enter c none p)
theorem wpN_call {f : Value} {pos : List Value} {kw : List (Str × Value)} {Q : Value → Shared → Prop}
    (hc : codeN M A (.call f ⟨pos, kw⟩) (fun r s' => match r with | .ok (.ret v) => Q v s' | .ok _ => False | .error e => E e s') s) :
    wpN M A (call f pos kw) Q E s := wpN_runValue hc
theorem codeN_of_tree {c : Code} {R : Result → Shared → Prop} (ho : okN c = true)
    (h : wpN M (A.under c) (M.den c) (fun fin s' => match fin with | .done f => R (.ok f) s' | .again c' => c'.quiet = true ∧ codeN M A c' R s')
      (fun e s' => R (.error e) s') s) : codeN M A c R s := fun Γ p hc hΓ hN => by
  rw [wpCode_iff_wp, hc]
  refine Sem.wp_mono M Γ _ (fun fin p' s' h' => ?_) (fun _ _ _ h' => h') p s (h Γ p (hc ▸ hΓ.in) ⟨by rw [hc]; exact ho, hN⟩)
  cases fin with
  | done f => exact h'
  | again c' => exact ⟨h'.1, h'.2 (Γ.goto c') p' rfl (hΓ.goto c') hN⟩
end
section
variable {M : Model} {A : Around} {E : Value → Shared → Prop} {s : Shared} {env : Env}
theorem execsN_cons {st rest} {Q : Flow → Shared → Prop}
    (h : wpN M A (exec st env) (fun f s' => match f with | .next => wpN M A (execs rest env) Q E s' | f => Q f s') E s) :
    wpN M A (execs (st :: rest) env) Q E s := fun Γ p hΓ hN => by
  rw [execs_cons, Sem.wp_bind']
  refine Sem.wp_mono M Γ _ (fun f p' s' h' => ?_) (fun _ _ _ h' => h') _ _ (h Γ p hΓ hN)
  cases f <;> first | exact h' Γ p' hΓ hN | exact h'
theorem execN_Assign {x pos' value pos} {Q : Flow → Shared → Prop}
    (h : wpN M A (eval value env) (fun v s₁ => wpAny M A (storeName env x v) (fun _ => Q .next) E s₁) E s)
    (hs : swapsWith value (some (.Name x pos')) pos.line env = pure false := by rfl) :
    wpN M A (exec (.Assign [.Name x pos'] value pos) env) Q E s := fun Γ p hΓ hN => by
  simp only [exec_Assign_Name env x pos' value pos hs, Sem.wp_bind', Sem.wp_cmd_standAt, Sem.wp_bindName, Sem.wp_pure']
  exact Sem.wp_mono M Γ _ (fun v _ s₁ h₁ => h₁ Γ _ hΓ) (fun _ _ _ h' => h') _ _ (h Γ _ hΓ hN)
theorem execN_If {test body orelse pos} {Q : Flow → Shared → Prop}
    (h : wpAny M A (isTrue test env (eval test env)) (fun b s₂ => if b then wpN M A (execs body env) Q E s₂ else wpN M A (execs orelse env) Q E s₂) E s) :
    wpN M A (exec (.If test body orelse pos) env) Q E s := fun Γ p hΓ hN => by
  simp only [exec_If, Sem.wp_bind', Sem.wp_cmd_standAt]
  refine Sem.wp_mono M Γ _ (fun b p₂ s₂ h₂ => ?_) (fun _ _ _ h' => h') _ _ (h Γ _ hΓ)
  cases b <;> exact h₂ Γ p₂ hΓ hN
theorem execN_Return {e pos} {Q : Flow → Shared → Prop} (h : wpN M A (eval e env) (fun v => Q (.ret v)) E s) :
    wpN M A (exec (.Return (some e) pos) env) Q E s := fun Γ p hΓ hN => by
  simp only [exec_Return_some, Sem.wp_bind', Sem.wp_cmd_standAt, Sem.wp_pure']; exact h Γ _ hΓ hN
theorem evalN_BinOp {l op r pos} {Q : Value → Shared → Prop}
    (h : wpN M A (eval l env) (fun a s₁ => wpN M A (eval r env) (fun b s₂ => wpAny M A (binaryOp op a b) Q E s₂) E s₁) E s) :
    wpN M A (eval (.BinOp l op r pos) env) Q E s := fun Γ p hΓ hN => by
  simp only [eval_BinOp, Sem.wp_bind', Sem.wp_holding, Sem.wp_cmd_standAt, Sem.wp_operate]
  exact Sem.wp_mono M Γ _ (fun a p₁ s₁ h₁ => Sem.wp_mono M Γ _ (fun b _ s₂ h₂ => h₂ Γ _ hΓ) (fun _ _ _ h' => h') _ _ (h₁ Γ p₁ hΓ hN))
    (fun _ _ _ h' => h') _ _ (h Γ p hΓ hN)
theorem splicedN_cons {x : Sem Value} {rest : List (Bool × Sem Value)} {Q : List Value → Shared → Prop}
    (h : wpN M A x (fun v s₁ => wpAny M A (spliced rest) (fun vs s₂ => Q (v :: vs) s₂) E s₁) E s) : wpN M A (spliced ((false, x) :: rest)) Q E s := by
  rw [spliced]
  refine wpN_bind (wpN_mono h (fun v s₁ h₁ => ?_) fun _ _ x => x)
  simp only [Bool.false_eq_true, if_false]
  exact wpN_any (wpAny_bind (wpAny_pure (wpAny_bind (wpAny_holding (wpAny_mono h₁ (fun vs s₂ h₂ => wpAny_pure h₂) fun _ _ x => x)))))
theorem evalN_List1 {e : Expr} {pos : Pos} {Q : Value → Shared → Prop} (h : wpN M A (eval e env) (fun v s₁ => Q (.ref s₁.heap.objs.size) { s₁ with heap := s₁.heap.push { cls := .type "list", data := .seq #[v] } }) E s)
    (he : starEach [e] env = [(false, eval e env)] := by rfl) : wpN M A (eval (.List [e] pos) env) Q E s := by
  rw [arm_eval_List]
  refine wpN_bind (wpN_any (wpAny_standAt ?_))
  refine wpN_bind ?_
  rw [he]
  refine splicedN_cons (wpN_mono h (fun v s₁ h₁ => ?_) fun _ _ x => x)
  exact Calls.spliced_nil (wpN_any (wpAny_newObj_type h₁ (by (show (#[v] : Array Value).size ≤ sizeLine); rw [sizeLine_eq]; exact (by decide : 1 ≤ 16777216))))
theorem callWithN {f : Value} {pos : Pos} {first : List Value} {P : Heap → Prop} {args : List (Bool × Sem Value)} {keywords : List (Option Str × Sem Value)} {Q : Value → Shared → Prop} (hplain : (args.any (·.1) || keywords.any (·.1.isNone)) = false)
    (hk : ∀ h, P h → ∃ k, (k = Keeper.frame ∨ k = Keeper.machine ∨ k = Keeper.boundFrame) ∧ Looks M h (keeperOf f) k)
    (h : wpAny M A (evalArgs f true args keywords) (fun a s₁ => P s₁.heap ∧ wpN M A (call f (first ++ a.pos) a.kw) Q E s₁) E s) : wpN M A (callWith pos f first args keywords) Q E s := by
  unfold callWith
  refine wpN_bind (wpN_holding (wpN_any (wpAny_mono h (fun a s₁ h₁ => wpN_bind (wpN_any (wpAny_standAt ?_))) fun _ _ x => x)))
  obtain ⟨k, hk', L⟩ := hk _ h₁.1
  simp only [hplain]
  refine wpN_bind (wpN_any (L.here ?_))
  have tail : ∀ {t : Sem Value}, wpN M A t Q E s₁ → wpN M A (t >>= fun r => holding [r] point >>= fun _ => pure r) Q E s₁ :=
    fun ht => wpN_bind (wpN_mono ht (fun r s₂ hr => wpN_any (wpAny_bind (wpAny_holding (wpAny_point (wpAny_pure hr))))) fun _ _ x => x)
  have marked (mk : Value) : wpN M A (callMarked mk f (first ++ a.pos) a.kw) Q E s₁ := by
    unfold callMarked
    intro Γ p hΓ hN
    rw [Sem.wp_keep]
    exact h₁.2 Γ p hΓ hN
  rcases hk' with rfl | rfl | rfl <;> dsimp only <;> first | exact tail h₁.2 | (split <;> first | exact tail h₁.2 | exact tail (marked _))
theorem evalN_Call {id : Str} {p pos : Pos} {args : List Expr} {Q : Value → Shared → Prop}
    (h : wpAny M A (eval (.Name id p) env) (fun f s₁ => wpN M A (callWith pos f [] (backTo pos (starEach args env)) []) Q E s₁) E s) :
    wpN M A (eval (.Call (.Name id p) args [] pos) env) Q E s := by
  rw [arm_eval_Call_Name']
  exact wpN_bind (wpN_any h)
theorem callWithN_K {K : Frag} {f : Value} {pos : Pos} {first : List Value} {e : Expr} {rest : List Expr} {Q : Value → Shared → Prop} (hk : keepIn K f = true) (h : wpAny M A (spliced (backTo pos (starEach (e :: rest) env))) (fun vs s₁ => K.In s₁.heap ∧ wpN M A (call f (first ++ vs)) Q E s₁) E s)
    (he : starEach (e :: rest) env = (false, eval e env) :: starEach rest env := by rfl) (hplain : (backTo pos (starEach rest env)).any (·.1) = false := by rfl) :
    wpN M A (callWith pos f first (backTo pos (starEach (e :: rest) env)) []) Q E s := by
  rw [he] at h ⊢
  exact callWithN (by show ((false || (backTo pos (starEach rest env)).any (·.1)) || false) = false; rw [hplain]; rfl) (keeps_K hk) (evalArgs_plain h)
theorem keeper_type (n : String) (h : Heap) : Looks M h (keeperOf (.type n)) .machine := Looks.of_pure rfl
theorem callWithN_T {n : String} {pos : Pos} {first : List Value} {e : Expr} {rest : List Expr} {Q : Value → Shared → Prop} (h : wpAny M A (spliced (backTo pos (starEach (e :: rest) env))) (fun vs s₁ => wpN M A (call (.type n) (first ++ vs)) Q E s₁) E s)
    (he : starEach (e :: rest) env = (false, eval e env) :: starEach rest env := by rfl) (hplain : (backTo pos (starEach rest env)).any (·.1) = false := by rfl) :
    wpN M A (callWith pos (.type n) first (backTo pos (starEach (e :: rest) env)) []) Q E s := by
  rw [he] at h ⊢
  exact callWithN (P := fun _ => True) (by show ((false || (backTo pos (starEach rest env)).any (·.1)) || false) = false; rw [hplain]; rfl) (fun h' _ => ⟨.machine, .inr (.inl rfl), keeper_type n h'⟩) (evalArgs_plain (wpAny_mono h (fun vs s₁ x => ⟨trivial, x⟩) fun _ _ x => x))
end
section
variable {prog : Program} {w : World} {A : Around} {s : Shared} {R : Result → Shared → Prop}
theorem codeN_func {body env}
    (h : wpN (model prog w) (A.deeper env) (execs body env) (fun f s' => R (.ok (.ret (match f with | .ret v => v | _ => .none))) s')
      (fun e s' => wpAny (model prog w) (A.deeper env) (leaving env e) (fun _ s'' => R (.error e) s'') (fun e' s'' => R (.error e') s'') s') s) :
    codeN (model prog w) A (.func body env) R s := by
  refine codeN_of_tree rfl ?_
  show wpN _ (A.deeper env) (do point; match ← (execs body env).onRaise (leaving env) with | .ret v => ret v | _ => ret .none) _ _ s
  refine wpN_bind (wpN_any (wpAny_point (wpN_bind (wpN_onRaise (wpN_mono h (fun f s' h' => ?_) fun _ _ h' => h')))))
  cases f <;> exact wpN_pure h'
theorem codeN_call_function {a : Addr} {args : Args} {o : Obj} {fd : FuncData} {body : List Stmt} (hroom : A.depth < recursionLimit)
    (ho : s.heap.get? a = some o)
    (hd' : o.data = .func fd) (hco : fd.scope.isCoroutine = false) (hgen : fd.scope.isGenerator = false) (hbody : fd.body = .stmts body) (hcd : s.heap.CodeRec fd.code fd.qualname)
    (h : wpAny (model prog w) A.in1 (bindArgs fd args) (fun binds s₁ =>
      wpAny (model prog w) A.in1 (newFunctionEnv fd.scope fd.globals fd.closure binds (fd.qualname ++ ".<locals>.") (some a) fd.code none fd.builtins)
        (fun env s₂ => s₂.heap.NoLimit ∧ codeN (model prog w) A (.func body env) R s₂) (fun e s' => R (.error e) s') s₁) (fun e s' => R (.error e) s') s) :
    codeN (model prog w) A (.call (.ref a) args) R s := by
  refine codeN_of_tree rfl (wpN_any ?_)
  show wpAny _ A.in1 (callAny (.ref a) args) _ _ s
  simp only [callAny]
  refine wpAny_bind (wpAny_load ho ?_)
  obtain ⟨c, oc, vs, tq, hc, hoc, hdc, hq⟩ := hcd
  simp only [hd', callFunction, hco, hgen, hbody, hc]
  rw [hc] at h
  refine wpAny_bind (m := field (.ref c) 1) (wpAny_field hoc hdc hq (wpAny_bind (wpAny_pure ?_)))
  exact wpAny_bind (wpAny_mono h (fun binds s₁ h₁ => wpAny_bind (wpAny_mono h₁ (fun env s₂ h₂ => wpAny_bind (wpAny_enterFrame h₂.1 hroom
    (wpAny_pure (And.intro rfl h₂.2)))) fun _ _ h' => h')) fun _ _ h' => h')
theorem codeN_call_def {a : Addr} {o : Obj} {fd : FuncData} {body : List Stmt} {args : Args} {binds : List (Str × Value)}
    (hroom : A.depth < recursionLimit) (ho : s.heap.get? a = some o) (hdata : o.data = .func fd) (hlim : s.heap.NoLimit) (hcd : s.heap.CodeRec fd.code fd.qualname)
    (hbody : fd.body = .stmts body) (hbind : BindsTo s fd args binds)
    (hcell : ∀ x ∈ fd.scope.names, x.2 ≠ .cell) (hloc : ∀ x ∈ binds, fd.scope.names.lookup x.1 = some .local)
    (h : ∀ h₀, h₀.Ns s.heap.objs.size (fun x => binds.reverse.lookup x) → (∀ b o, s.heap.get? b = some o → h₀.get? b = some o) →
      wpN (model prog w) (A.deeper (callEnv fd s.heap.objs.size a)) (execs body (callEnv fd s.heap.objs.size a)) (fun f s' => R (.ok (.ret (match f with | .ret v => v | _ => .none))) s')
        (fun e s' => wpAny (model prog w) (A.deeper (callEnv fd s.heap.objs.size a)) (leaving (callEnv fd s.heap.objs.size a) e) (fun _ s'' => R (.error e) s'') (fun e' s'' => R (.error e') s'') s')
        { s with heap := h₀, toks := s.toks + binds.length })
    (hco : fd.scope.isCoroutine = false := by rfl) (hgen : fd.scope.isGenerator = false := by rfl) (hk : fd.scope.kind = .function := by rfl) :
    codeN (model prog w) A (.call (.ref a) args) R s := by
  refine codeN_call_function hroom ho hdata hco hgen hbody hcd (hbind _ _ _ _ ?_)
  refine wpAny_newFunctionEnv hcell hloc (fun h₀ hns₀ hsb₀ => ⟨hlim.fresh _ hsb₀, codeN_func (h h₀ hns₀ fun b o e => ?_)⟩) hk
  exact hsb₀.extBut b o (Nat.ne_of_lt (Heap.lt_size e)) (Heap.get?_push_of_some _ e)
end
end
-- U15
section
def toCall {α : Type} (K : Frag) (S : Setting) : Sem α → Option (Code × Option Value × (Result → Sem α))
  | .rule _ k => toCall K S (k ())
  | .point _ k => toCall K S (k ())
  | .at _ k => toCall K S (k ())
  | .ask k => toCall K S (k S)
  | .load a _ k => (match K.lookup a with
      | some o => toCall K S (k o)
      | none => none)
  | .call c h _ _ k => some (c, h, k)
  | _ => none
theorem toCall_load {α : Type} {K : Frag} {S : Setting} {a : Addr} {v : Option Value} {k : Obj → Sem α} : toCall K S (.load a v k) = (K.lookup a).bind fun o => toCall K S (k o) := by kernel_rfl
theorem toCall_N' {α : Type} {K : Frag} {M : Model} {Γ : Ctx} {A : Around} {E : Value → Shared → Prop} {Q : α → Shared → Prop} {s : Shared} (X : K.In s.heap) (hΓ : Γ.In A) (hN : NoDec Γ) :
    ∀ (t : Sem α) (p : Pos) (c : Code) (k : Result → Sem α), toCall K ⟨M.prog, M.w.params⟩ t = some (c, none, k) → codeN M A c (fun r s' => wpN M A (k r) Q E s') s → Sem.wp M Γ t (fun a _ s' => Q a s') (fun e _ s' => E e s') p s := by
  intro t
  induction t with
  | rule _ k ih => intro p c q e h; exact ih () p c q e h
  | point _ k ih => intro p c q e h; exact ih () p c q e h
  | «at» p' k ih => intro p c q e h; exact ih () p' c q e h
  | ask k ih => intro p c q e h; exact ih _ p c q e h
  | load a _ k ih =>
    intro p c q e h
    obtain ⟨o, ho, e⟩ := Option.bind_eq_some_iff.mp (toCall_load.symm.trans e)
    exact ⟨o, X _ _ ho, ih o p c q e h⟩
  | call c' h' g l k ih =>
    intro p c q e h
    replace e : some ((c', h', k) : (Code × Option Value × (Result → Sem α))) = some (c, none, q) := e
    simp only [Option.some.injEq, Prod.mk.injEq] at e
    obtain ⟨rfl, rfl, rfl⟩ := e
    refine wpCode_mono (fun r s' hr => ?_) (h (Γ.enter c' none p) p rfl (hΓ.enter c' none p (by intro x; cases x)) (hN.enter c' none p))
    exact hr Γ p hΓ hN
  | _ => intro p c q e h; cases (show (none : Option (Code × Option Value × (Result → Sem α))) = some (c, none, q) from e)
theorem toCall_N {α : Type} {K : Frag} {M : Model} {A : Around} {E : Value → Shared → Prop} {Q : α → Shared → Prop} {s : Shared} {t : Sem α} {c : Code} {k : Result → Sem α} (X : K.In s.heap) (e : toCall K ⟨M.prog, M.w.params⟩ t = some (c, none, k)) (h : codeN M A c (fun r s' => wpN M A (k r) Q E s') s) : wpN M A t Q E s :=
  fun Γ p hΓ hN => toCall_N' X hΓ hN t p c k e h
def toCall1 {α : Type} (K : Frag) (S : Setting) (ob : Obj) : Sem α → List Bool → Option (List Addr × Code × Option Value × (Result → Sem α))
  | .rule _ k, c => toCall1 K S ob (k ()) c
  | .point _ k, c => toCall1 K S ob (k ()) c
  | .at _ k, c => toCall1 K S ob (k ()) c
  | .ask k, c => toCall1 K S ob (k S) c
  | .load a _ k, c => (match c with
      | true :: c => (toCall1 K S ob (k ob) c).map fun r => (a :: r.1, r.2)
      | false :: c => (match K.lookup a with
        | some o => toCall1 K S ob (k o) c
        | none => none)
      | [] => none)
  | .call c h _ _ k, _ => some ([], c, h, k)
  | _, _ => none
theorem toCall1_load {α : Type} {K : Frag} {S : Setting} {ob : Obj} {a : Addr} {v : Option Value} {k : Obj → Sem α} {c : List Bool} : toCall1 K S ob (.load a v k) (false :: c) = (K.lookup a).bind fun o => toCall1 K S ob (k o) c := by kernel_rfl
theorem toCall1_N' {α : Type} {K : Frag} {M : Model} {Γ : Ctx} {A : Around} {E : Value → Shared → Prop} {Q : α → Shared → Prop} {s : Shared} {x : Addr} {ob : Obj} (X : K.In s.heap) (hx : s.heap.get? x = some ob) (hΓ : Γ.In A) (hN : NoDec Γ) :
    ∀ (t : Sem α) (p : Pos) (scr : List Bool) (as : List Addr) (c : Code) (k : Result → Sem α), toCall1 K ⟨M.prog, M.w.params⟩ ob t scr = some (as, c, none, k) → (∀ a ∈ as, a = x) → codeN M A c (fun r s' => wpN M A (k r) Q E s') s → Sem.wp M Γ t (fun a _ s' => Q a s') (fun e _ s' => E e s') p s := by
  intro t
  induction t with
  | rule _ k ih => intro p scr as c q e ha h; exact ih () p scr as c q e ha h
  | point _ k ih => intro p scr as c q e ha h; exact ih () p scr as c q e ha h
  | «at» p' k ih => intro p scr as c q e ha h; exact ih () p' scr as c q e ha h
  | ask k ih => intro p scr as c q e ha h; exact ih _ p scr as c q e ha h
  | load a _ k ih =>
    intro p scr as c q e ha h
    cases scr with
    | nil => cases (show (none : Option (List Addr × Code × Option Value × (Result → Sem α))) = some (as, c, none, q) from e)
    | cons b scr =>
      cases b with
      | true =>
        replace e : (toCall1 K ⟨M.prog, M.w.params⟩ ob (k ob) scr).map (fun r => (a :: r.1, r.2)) = some (as, c, none, q) := e
        simp only [Option.map_eq_some_iff] at e
        obtain ⟨r, e, e2⟩ := e
        simp only [Prod.mk.injEq] at e2
        obtain ⟨rfl, e3⟩ := e2
        refine ⟨ob, by rw [ha a (.head _)]; exact hx, ih ob p scr r.1 c q ?_ (fun b hb => ha b (.tail _ hb)) h⟩
        rw [e]
        exact congrArg some (Prod.ext rfl e3)
      | false =>
        obtain ⟨o, ho, e⟩ := Option.bind_eq_some_iff.mp (toCall1_load.symm.trans e)
        exact ⟨o, X _ _ ho, ih o p scr as c q e ha h⟩
  | call c' h' g l k ih =>
    intro p scr as c q e ha h
    replace e : some (([], c', h', k) : (List Addr × Code × Option Value × (Result → Sem α))) = some (as, c, none, q) := e
    simp only [Option.some.injEq, Prod.mk.injEq] at e
    obtain ⟨rfl, rfl, rfl, rfl⟩ := e
    refine wpCode_mono (fun r s' hr => ?_) (h (Γ.enter c' none p) p rfl (hΓ.enter c' none p (by intro x; cases x)) (hN.enter c' none p))
    exact hr Γ p hΓ hN
  | _ => intro p scr as c q e ha h; cases (show (none : Option (List Addr × Code × Option Value × (Result → Sem α))) = some (as, c, none, q) from e)
theorem toCall1_N {α : Type} {K : Frag} {M : Model} {A : Around} {E : Value → Shared → Prop} {Q : α → Shared → Prop} {s : Shared} {x : Addr} {ob : Obj} {t : Sem α} {scr : List Bool} {as : List Addr} {c : Code} {k : Result → Sem α} (X : K.In s.heap) (hx : s.heap.get? x = some ob) (e : toCall1 K ⟨M.prog, M.w.params⟩ ob t scr = some (as, c, none, k)) (ha : ∀ a ∈ as, a = x) (h : codeN M A c (fun r s' => wpN M A (k r) Q E s') s) : wpN M A t Q E s :=
  fun Γ p hΓ hN => toCall1_N' X hx hΓ hN t p scr as c k e ha h
def baO (b : Array UInt8) : Obj := { cls := .type "bytearray", data := .bytearray b 0 }
def baProg (S : Setting) (n : Int) (t : Tok) (x : Addr) (scr : List Bool) : Option (Code × Option Value × List Addr × Code × Option Value × Fin) :=
  match toCall [] S (Builtin.«type.__call__» ⟨[.type "bytearray", .int n t], []⟩) with
  | none => none
  | some (c1, h1, k1) => match toCall1 [] S (baO #[]) (k1 (.ok (.ret (.ref x)))) scr with
    | none => none
    | some (as, c2, h2, k2) => match peek [] S (k2 (.ok (.ret .none))) with
      | none => none
      | some r => some (c1, h1, as, c2, h2, r)
end
-- U16
section
theorem ba_prog (S : Setting) (n : Int) (t : Tok) (x : Addr) : baProg S n t x [true, true, true] = some (.call (.builtin "bytearray.__new__") ⟨[.type "bytearray", .int n t], []⟩, none, [x, x], .call (.builtin "bytearray.__init__") ⟨[.ref x, .int n t], []⟩, none, .done (.ret (.ref x))) := by kernel_rfl
def run1 {α : Type} (K : Frag) (S : Setting) (t : Sem α) (x : Addr) : Option (Obj × α) := match peekA K S t with
  | none => none
  | some (o, k) => match peek K S (k x) with
    | none => none
    | some r => some (o, r)
theorem wp_of_run1 {α : Type} {K : Frag} {M : Model} {A : Around} {E : Value → Shared → Prop} {Q : α → Shared → Prop} {s : Shared} {h₀ : Heap} {L : Addr} {m : Str → Option Value} {news : List (Addr × Obj)} {o : Obj} {r : Addr → α} {t : Sem α}
    (F : Fr h₀ L s.heap m) (N : News h₀ L s.heap news) (X : K.In h₀) (hf : o.isFreed = false)
    (e : ∀ x, run1 K ⟨M.prog, M.w.params⟩ t x = some (o, r x))
    (h : ∀ x h', Fr h₀ L h' m → News h₀ L h' ((x, o) :: news) → (∀ p ∈ news, @LT.lt Nat _ p.1 x) → Q (r x) { s with heap := h' }) : wpAny M A t Q E s := by
  have e0 := e s.heap.objs.size
  unfold run1 at e0
  cases e1 : peekA K ⟨M.prog, M.w.params⟩ t with
  | none => rw [e1] at e0; cases e0
  | some q =>
    obtain ⟨o', k⟩ := q
    rw [e1] at e0
    dsimp only at e0
    cases e3 : peek K ⟨M.prog, M.w.params⟩ (k s.heap.objs.size) with
    | none => rw [e3] at e0; cases e0
    | some v =>
      rw [e3] at e0
      obtain ⟨a, b⟩ := Prod.mk.inj (Option.some.inj e0)
      subst a
      refine wp_of_peekA F N (X.keeps F.keep) hf _ _ e1 fun h1 F1 N1 l1 => ?_
      refine (Looks.of_peek (X.keeps F1.keep) e3).here ?_
      rw [b]
      exact h _ _ F1 N1 l1
theorem ba_new_check (S : Setting) (n : Int) (t : Tok) : peek [] S (checkBuiltinCall "bytearray.__new__" ⟨[.type "bytearray", .int n t], []⟩) = some () := by kernel_rfl
theorem ba_new_entry : entryFor table "bytearray.__new__" = some Builtin.«list.__new__» := entryFor_alias (id' := "list.__new__") (by kernel_rfl) rfl (by decide +kernel) (by kernel_rfl)
theorem ba_new_plain : plainId "bytearray.__new__" = true := by decide +kernel
theorem ba_init_check (S : Setting) (n : Int) (t : Tok) (x : Addr) (tk : Tok) (b : Array UInt8) : sim1 [] S x (checkBuiltinCall "bytearray.__init__" ⟨[.ref x, .int n t], []⟩) [true] tk (baO b) = some ([x], baO b, tk, ()) := by kernel_rfl
theorem ba_init_entry : entryFor table "bytearray.__init__" = some Builtin.«bytearray.__init__» := by first | exact entryFor_of_fast (by kernel_rfl) | exact entryFor_of_tree (by kernel_rfl)
theorem ba_init_plain : plainId "bytearray.__init__" = true := by decide +kernel
theorem ba_init_ok (n : Int) (t : Tok) (x : Addr) : okN (.builtin "bytearray.__init__" ⟨[.ref x, .int n t], []⟩) = true := by kernel_rfl
theorem ba_type_ok (n : Int) (t : Tok) : okN (.builtin "type.__call__" ⟨[.type "bytearray", .int n t], []⟩) = true := by kernel_rfl
theorem ba_owner : ("bytearray.__new__".splitOn ".__new__").headD "" = "bytearray" := by simp +decide [String.splitOn, String.splitOnAux]
theorem ba_sub : isSubtype (.type "bytearray") (.type "bytearray") = pure true := by rw [isSubtype_type]; kernel_rfl
theorem ba_newCall (a : Value) : checkBuiltinCall "bytearray.__new__" ⟨[.type "bytearray", a], []⟩ = pure () := by kernel_rfl
theorem ba_ends : "bytearray.__release_buffer__".endsWith ("." ++ "__release_buffer__") = true := by decide +kernel
theorem ba_drop : "bytearray.__release_buffer__".dropRight ("__release_buffer__".length + 1) = "bytearray" := by decide +kernel
theorem ba_look : typeLookup (.type "bytearray") "__release_buffer__" = pure (some (.builtin "bytearray.__release_buffer__")) := by rw [typeLookup_type, builtinLookup_eq_fast]; kernel_rfl
section
variable {prog : Program} {w : World} {A : Around} {E : Value → Shared → Prop} {s : Shared}
theorem code_ba_new (a : Value) {Q₁ : Value → Shared → Prop}
    (h : Q₁ (.ref s.heap.objs.size) { s with heap := s.heap.push (baO #[]) }) :
    codeAny (model prog w) A (.call (.builtin "bytearray.__new__") ⟨[.type "bytearray", a], []⟩) (wants Q₁ E) s := by
  refine codeAny_of_tree ?_
  show wpAny _ A.in1 (do checkBuiltinCall "bytearray.__new__" ⟨[.type "bytearray", a], []⟩; again (.builtin "bytearray.__new__" ⟨[.type "bytearray", a], []⟩)) _ _ s
  refine wpAny_bind (wpAny_of_eq (ba_newCall a) (wpAny_pure ⟨plainId_quiet ba_new_plain _, codeAny_builtin_stack ba_new_entry rfl fun p st => ?_⟩))
  rw [Around.under_plainId ba_new_plain _]
  have hsub := ba_sub
  have hown := ba_owner
  obtain ⟨hp, g, d, tk, os⟩ := s
  simp only [hown]
  wp_walk
  exact h
theorem ba_exported {x : Value} {Q : Bool → Shared → Prop} (h : Q false s) : wpN (model prog w) A (Builtin.Bytes.exported x) Q E s := by
  intro Γ p hΓ hN
  unfold Builtin.Bytes.exported
  show Q _ s
  have hok : ∀ c ∈ (Γ.code, p) :: Γ.below, okN c.1 = true := by
    intro c hc
    rcases List.mem_cons.mp hc with rfl | hc
    · exact hN.1
    · exact hN.2 _ hc
  rw [List.any_eq_false.mpr]
  · exact h
  · rintro ⟨co, q⟩ hc
    have z := hok _ hc
    cases co with
    | builtin id a =>
      obtain ⟨vals, kw⟩ := a
      have hb : ∀ y, badIds.contains y = true → id ≠ y := by
        rintro y hy rfl
        have z : (!badIds.contains id) = true := z
        rw [hy] at z
        exact Bool.false_ne_true z
      refine Bool.eq_false_iff.mp ?_
      delta Builtin.Bytes.exported.match_1
      dsimp only
      show dite (id = "bytearray.__contains__") _ _ = false
      rw [dif_neg (hb _ (by decide +kernel))]
      rw [dif_neg (hb _ (by decide +kernel))]
      rw [dif_neg (hb _ (by decide +kernel))]
      rw [dif_neg (hb _ (by decide +kernel))]
      rw [dif_neg (hb _ (by decide +kernel))]
      cases vals with
      | nil => rfl
      | cons v vs =>
        show (Builtin.Bytes.sameRef v x && Builtin.Bytes.decodersThatHold.contains id) = false
        have hd : Builtin.Bytes.decodersThatHold.contains id = false := by
          rw [Bool.eq_false_iff]
          intro y
          exact hb id (List.contains_iff_mem.mpr (.tail _ (.tail _ (.tail _ (.tail _ (.tail _ (List.contains_iff_mem.mp y))))))) rfl
        rw [hd, Bool.and_false]
    | _ => exact Bool.false_ne_true
end
end
-- U17
section
section
variable {prog : Program} {w : World} {A : Around} {E : Value → Shared → Prop} {s : Shared} {h₀ : Heap} {L x : Addr} {m : Str → Option Value} {rest : List (Addr × Obj)}
theorem ba_write {b : Array UInt8} {f : Array UInt8 → Array UInt8} {Q : Unit → Shared → Prop} (F : Fr h₀ L s.heap m) (N : News h₀ L s.heap ((x, baO b) :: rest)) (hr : ∀ q ∈ rest, q.1 ≠ x) (hs : (f b).size ≤ 1000000)
    (h : ∀ h', Fr h₀ L h' m → News h₀ L h' ((x, baO (f b)) :: rest) → Q () { s with heap := h' }) : wpAny (model prog w) A (Builtin.Bytes.write (.ref x) f) Q E s := by
  have z := N _ (.head _)
  show wpAny _ _ (updateBytearray x f) _ _ _
  unfold updateBytearray
  refine wpAny_bind (wpAny_load z.1 ?_)
  refine wpAny_bind (wpAny_update z.1 ?_)
  unfold lookBehind
  have N2 : News h₀ L (s.heap.update x (Obj.mapBytearray f)) ((x, baO (f b)) :: rest) := News.upd N (Obj.mapBytearray f) hr rfl
  refine wpAny_bind (wpAny_loadPart (N2 _ (.head _)).1 ?_)
  have e : (baO (f b)).data.pastItsLine = none := by
    show (if (f b).size > sizeLine then some "bytearray:memory" else none) = none
    rw [if_neg (by rw [sizeLine_eq]; omega)]
  show wpAny _ _ (match (baO (f b)).data.pastItsLine with | some what => unsupported what | _ => pure PUnit.unit) _ _ _
  rw [e]
  exact wpAny_pure (h _ (Fr.upd F _ z.2.1 z.2.2) N2)
theorem ba_ownRelease {b : Array UInt8} {Q : Bool → Shared → Prop} (hx : s.heap.get? x = some (baO b)) (h : Q false s) : wpAny (model prog w) A (Builtin.Bytes.ownRelease (.ref x)) Q E s := by
  unfold Builtin.Bytes.ownRelease Builtin.Bytes.slotIsOwn
  have hT : s.TypeIs (.ref x) "bytearray" := ⟨_, hx, rfl⟩
  refine wpAny_bind (wpAny_bind (wpAny_specialOf hT ba_look ?_))
  dsimp only
  rw [ba_ends, ba_drop]
  simp only [Bool.not_true, Bool.false_eq_true, if_false]
  first
    | exact wpAny_isInstance hT ba_sub (wpAny_pure h)
    | exact wpAny_bind (wpAny_pure (wpAny_isInstance hT ba_sub (wpAny_pure h)))
theorem bi_opt (S : Setting) (n : Int) (t : Tok) : peek [] S (Builtin.Bytes.bindOptional "bytearray.__init__" "bytearray" ["source", "encoding", "errors"] [Value.int n t] []) = some [some (.int n t), none, none] := by kernel_rfl
theorem bi_enc (S : Setting) (a : String) : peek [] S (Builtin.Bytes.checkCodecArg "bytearray.__init__" "bytearray" a none) = some () := by kernel_rfl
theorem bi_idx (S : Setting) (n : Int) (t : Tok) : peek [] S (specialOf (.int n t) "__index__") = some (some (.builtin "int.__index__")) := by kernel_rfl
theorem bi_str (S : Setting) (n : Int) (t : Tok) : peek [] S (asStr? (.int n t)) = some none := by kernel_rfl
theorem bi_asIdx (S : Setting) (n : Int) (t : Tok) : peek [] S (asIndex (.int n t)).attempt = some (.ok n) := by kernel_rfl
theorem nil_in (h : Heap) : Frag.In [] h := fun _ _ e => by cases e
theorem ba_init {n : Int} {t : Tok} {R : Fin → Shared → Prop} (F : Fr h₀ L s.heap m) (N : News h₀ L s.heap ((x, baO #[]) :: rest)) (hr : ∀ q ∈ rest, q.1 ≠ x) (h0 : 0 ≤ n) (h1 : n ≤ 100000)
    (h : ∀ h', Fr h₀ L h' m → News h₀ L h' ((x, baO (Array.replicate n.toNat 0)) :: rest) → R (.done (.ret .none)) { s with heap := h' }) :
    wpN (model prog w) A (Builtin.«bytearray.__init__» ⟨[.ref x, .int n t], []⟩) R E s := by
  unfold Builtin.«bytearray.__init__»
  dsimp only
  refine wpN_bind (wpN_any (ba_ownRelease (N _ (.head _)).1 ?_))
  simp only [Bool.false_eq_true, if_false]
  refine wpN_bind (wpN_any ((Looks.of_peek (M := model prog w) (nil_in _) (bi_opt _ n t)).here ?_))
  dsimp only
  refine wpN_bind (wpN_any ((Looks.of_peek (M := model prog w) (nil_in _) (bi_enc _ _)).here ?_))
  refine wpN_bind (wpN_any ((Looks.of_peek (M := model prog w) (nil_in _) (bi_enc _ _)).here ?_))
  have z := N _ (.head _)
  have hex : ∀ {Q : Bool → Shared → Prop}, Q false s → wpN (model prog w) A (Builtin.Bytes.exported (Value.ref x) <||> do let l ← Builtin.Bytes.exportsOf (Value.ref x); pure (decide (l > 0))) Q E s := by
    intro Q hq
    unfold orM
    refine wpN_bind (ba_exported ?_)
    refine wpN_any ?_
    refine wpAny_bind ?_
    show wpAny _ _ (do match (← load x).data with | .bytearray _ n => pure n | _ => pure 0) _ _ _
    exact wpAny_bind (wpAny_load z.1 (wpAny_pure (wpAny_pure hq)))
  refine wpN_bind (hex ?_)
  simp only [Bool.false_eq_true, if_false]
  refine wpN_bind (wpN_any (ba_write F N hr (by simp) ?_))
  intro h' F' N'
  refine wpN_any ?_
  refine wpAny_bind ((Looks.of_peek (M := model prog w) (nil_in _) (bi_str _ n t)).here ?_)
  simp only [Option.isSome_none, Bool.false_eq_true, if_false]
  refine wpAny_bind (wpAny_pure ?_)
  refine wpAny_bind ((Looks.of_peek (M := model prog w) (nil_in _) (bi_idx _ n t)).here ?_)
  simp only [Option.isSome_some, if_true]
  refine wpAny_bind ((Looks.of_peek (M := model prog w) (nil_in _) (bi_asIdx _ n t)).here ?_)
  dsimp only
  have c1 : Builtin.Bytes.fitsIndex n = true := by
    unfold Builtin.Bytes.fitsIndex
    have a1 : -(2 ^ 63 : Int) ≤ n := by omega
    have a2 : n < 2 ^ 63 := by omega
    simp only [a1, a2, decide_true, Bool.and_self]
  have c2 : (n == 2 ^ 63 - 1) = false := by
    rw [beq_eq_false_iff_ne]; omega
  have c3 : Builtin.Bytes.tooLong n.toNat = false := by
    unfold Builtin.Bytes.tooLong
    rw [sizeLine_eq]
    exact decide_eq_false (by omega)
  rw [c1, c2, c3]
  simp only [Bool.not_true, Bool.false_eq_true, if_false, if_neg (show ¬ n < 0 by omega)]
  refine wpAny_bind (wpAny_rule ?_)
  by_cases hn : n > 0
  · simp only [if_pos hn]
    refine wpAny_bind (ba_write F' N' hr (by simp; omega) ?_)
    intro h2 F2 N2
    exact wpAny_pure (h h2 F2 N2)
  · simp only [if_neg hn]
    have : n = 0 := by omega
    subst this
    exact wpAny_pure (h h' F' N')
end
end
-- U18
section
section
variable {prog : Program} {w : World} {A : Around} {E : Value → Shared → Prop} {s : Shared} {R : Result → Shared → Prop}
theorem codeN_builtin {id : String} {args : Args} {b : Builtin} (ho : okN (.builtin id args) = true) (hb : entryFor table id = some b)
    (h : wpN (model prog w) (A.under (.builtin id args)) (b args) (fun fin s' => match fin with | .done f => R (.ok f) s' | .again c' => c'.quiet = true ∧ codeN (model prog w) A c' R s') (fun e s' => R (.error e) s') s) :
    codeN (model prog w) A (.builtin id args) R s := by
  refine codeN_of_tree ho ?_
  show wpN _ _ (match entryFor table id with | some b => b args | none => unsupported ((withoutEnding? id "#data").getD id)) _ _ s
  rw [hb]; exact h
theorem call_ba {h₀ : Heap} {L : Addr} {m : Str → Option Value} {news : List (Addr × Obj)} {Q : Value → Shared → Prop} {n : Int} {t : Tok} (F : Fr h₀ L s.heap m) (N : News h₀ L s.heap news) (h0 : 0 ≤ n) (h1 : n ≤ 100000)
    (h : ∀ x h', Fr h₀ L h' m → News h₀ L h' ((x, baO (Array.replicate n.toNat 0)) :: news) → (∀ q ∈ news, @LT.lt Nat _ q.1 x) → Q (.ref x) { s with heap := h' }) :
    wpN (model prog w) A (call (.type "bytearray") [.int n t]) Q E s := by
  refine wpN_call (codeN_of_tree rfl ?_)
  show wpN _ _ (callAny (.type "bytearray") _) _ _ _
  refine wpN_pure ⟨Code.quiet_builtin _ (by decide +kernel), codeN_builtin (ba_type_ok n t) PySem.F.entry_type_call ?_⟩
  rw [Around.under_plain (weight_type_call_type "bytearray" [.int n t] []) rfl]
  have e := ba_prog ⟨prog, w.params⟩ n t s.heap.objs.size
  unfold baProg at e
  cases e1 : toCall [] ⟨prog, w.params⟩ (Builtin.«type.__call__» ⟨[.type "bytearray", .int n t], []⟩) with
  | none => rw [e1] at e; cases e
  | some q =>
    obtain ⟨c1, h1', k1⟩ := q
    rw [e1] at e
    dsimp only at e
    cases e2 : toCall1 [] ⟨prog, w.params⟩ (baO #[]) (k1 (.ok (.ret (.ref s.heap.objs.size)))) [true, true, true] with
    | none => rw [e2] at e; cases e
    | some q2 =>
      obtain ⟨as, c2, h2, k2⟩ := q2
      rw [e2] at e
      dsimp only at e
      cases e3 : peek [] ⟨prog, w.params⟩ (k2 (.ok (.ret .none))) with
      | none => rw [e3] at e; cases e
      | some r =>
        rw [e3] at e
        simp only [Option.some.injEq, Prod.mk.injEq] at e
        obtain ⟨rfl, rfl, rfl, rfl, rfl, rfl⟩ := e
        refine toCall_N (M := model prog w) (nil_in _) e1 ?_
        generalize hSe : s.heap.objs.size = S at *
        refine codeN_any (codeAny_mono (code_ba_new (E := fun _ _ => False) (Q₁ := fun v s' => v = .ref S ∧ s' = { s with heap := s.heap.push (baO #[]) }) _ ⟨by rw [hSe], rfl⟩) fun r s' hr => ?_)
        cases r with
        | error e => exact hr.elim
        | ok fl =>
          cases fl with
          | ret v =>
            obtain ⟨rfl, rfl⟩ := hr
            have hS : (s.heap.push (baO #[])).get? S = some (baO #[]) := by rw [← hSe]; exact Heap.get?_push_size _ rfl
            have kp : ∀ b o, s.heap.get? b = some o → (s.heap.push (baO #[])).get? b = some o := fun b o e => Heap.get?_push_of_some _ e
            have F1 := F.keeps kp
            have N1 : News h₀ L (s.heap.push (baO #[])) ((S, baO #[]) :: news) := by
              have := news_pushed F N kp (o := baO #[]) (Heap.get?_push_size _ rfl) rfl
              rw [hSe] at this
              exact this
            have hlt : ∀ q ∈ news, @LT.lt Nat _ q.1 S := by
              intro q hq
              rw [← hSe]; exact Heap.lt_size (N q hq).1
            have hne : ∀ q ∈ news, q.1 ≠ S := fun q hq => Nat.ne_of_lt (hlt q hq)
            refine toCall1_N (M := model prog w) (nil_in _) hS e2 (by simp) ?_
            refine codeN_of_tree rfl ?_
            show wpN _ A.in1.in1 (do checkBuiltinCall "bytearray.__init__" ⟨[.ref S, .int n t], []⟩; again (.builtin "bytearray.__init__" ⟨[.ref S, .int n t], []⟩)) _ _ _
            refine wpN_bind (wpN_any (sim1_wp (M := model prog w) [true] F1 (nil_in _) N1 hne (ba_init_check _ _ _ _ _ _) (by simp) ?_))
            intro h3 F3 N3
            refine wpN_pure ⟨plainId_quiet ba_init_plain _, codeN_builtin (ba_init_ok _ _ _) ba_init_entry ?_⟩
            refine ba_init F3 N3 hne h0 h1 ?_
            intro h4 F4 N4
            refine wpN_any ((Looks.of_peek (M := model prog w) (nil_in _) e3).here ?_)
            exact h S h4 F4 N4 hlt
          | _ => exact hr.elim
end
end
-- U19
section
theorem bb_buf (S : Setting) (x : Addr) (b : Array UInt8) (tk : Tok) : ∃ n, sim1 [] S x (Builtin.Bytes.buffer? "bytes.__new__" (.ref x) (full := true)) (List.replicate 20 true) tk (baO b) = some (List.replicate n x, baO b, tk, some b) := ⟨7, by kernel_rfl⟩
theorem bb_no_bytes : typeLookup (.type "bytearray") "__bytes__" = pure none := by rw [typeLookup_type, builtinLookup_eq_fast]; kernel_rfl
theorem bb_no_index : typeLookup (.type "bytearray") "__index__" = pure none := by rw [typeLookup_type, builtinLookup_eq_fast]; kernel_rfl
section
variable {prog : Program} {w : World} {A : Around} {E : Value → Shared → Prop} {s : Shared} {h₀ : Heap} {L x : Addr} {m : Str → Option Value} {rest : List (Addr × Obj)}
theorem bb_new {b : Array UInt8} {Q : Value → Shared → Prop} (F : Fr h₀ L s.heap m) (N : News h₀ L s.heap ((x, baO b) :: rest)) (hr : ∀ q ∈ rest, q.1 ≠ x) (hb : b.size ≤ 1000000)
    (hQ : ∀ h', Fr h₀ L h' m → News h₀ L h' ((x, baO b) :: rest) → Q (.bytes b s.toks) { s with heap := h', toks := s.toks + 1 }) :
    codeAny (model prog w) A (.call (.builtin "bytes.__new__") ⟨[.type "bytes", .ref x], []⟩) (wants Q E) s := by
  refine codeAny_of_tree ?_
  show wpAny _ A.in1 (do checkBuiltinCall "bytes.__new__" ⟨[.type "bytes", .ref x], []⟩; again (.builtin "bytes.__new__" ⟨[.type "bytes", .ref x], []⟩)) _ _ s
  refine wpAny_bind (wpAny_of_eq (PySem.F.bm_newCall _) (wpAny_pure ⟨plainId_quiet PySem.F.bm_plain _, codeAny_builtin PySem.F.bm_entry ?_⟩))
  rw [Around.under_plainId PySem.F.bm_plain _]
  have hx := (N _ (.head _)).1
  have hT : s.TypeIs (.ref x) "bytearray" := ⟨_, hx, rfl⟩
  unfold Builtin.«bytes.__new__»
  refine wpAny_bind (wpAny_of_eq (a := true) rfl ?_)
  refine bm_if_false rfl ?_
  refine wpAny_bind (wpAny_of_eq PySem.F.bm_sub ?_)
  refine bm_if_false rfl ?_
  refine wpAny_bind (wpAny_of_eq (PySem.F.bm_bind _) ?_)
  refine wpAny_bind (wpAny_of_eq (a := ()) rfl ?_)
  refine wpAny_bind (wpAny_of_eq (a := ()) rfl ?_)
  refine bm_if_false rfl ?_
  refine wpAny_bind (wpAny_specialOf hT bb_no_bytes ?_)
  refine wpAny_bind (wpAny_bind ?_)
  show wpAny _ _ (load x >>= _) _ _ _
  refine wpAny_bind (wpAny_load hx ?_)
  refine wpAny_pure (wpAny_pure ?_)
  refine bm_if_false rfl ?_
  refine wpAny_bind (wpAny_specialOf hT bb_no_index ?_)
  refine bm_if_true rfl ?_
  first
    | show wpAny _ _ (Builtin.Bytes.buffer? "bytes.__new__" (.ref x) true >>= _) _ _ _
    | (refine wpAny_bind ?_; show wpAny _ _ (Builtin.Bytes.buffer? "bytes.__new__" (.ref x) true >>= _) _ _ _)
  obtain ⟨n, hn⟩ := bb_buf ⟨prog, w.params⟩ x b s.toks
  refine wpAny_bind (sim1_wp (M := model prog w) (List.replicate 20 true) F (nil_in _) N hr hn (fun a h => (List.mem_replicate.mp h).2) ?_)
  intro h' F' N'
  dsimp only
  refine wpAny_bind (wpAny_rule ?_)
  have em : mkBytes b = (do return Value.bytes b (← fresh)) := by
    unfold mkBytes
    rw [if_neg (by rw [sizeLine_eq]; omega)]
  rw [em]
  refine wpAny_bind (wpAny_bind (wpAny_fresh (wpAny_pure ?_)))
  exact wpAny_pure (hQ h' F' N')
theorem call_bb {b : Array UInt8} {Q : Value → Shared → Prop} (F : Fr h₀ L s.heap m) (N : News h₀ L s.heap ((x, baO b) :: rest)) (hr : ∀ q ∈ rest, q.1 ≠ x) (hb : b.size ≤ 1000000)
    (hQ : ∀ h' t tk', Fr h₀ L h' m → News h₀ L h' ((x, baO b) :: rest) → Q (.bytes b t) { s with heap := h', toks := tk' }) :
    wpAny (model prog w) A (call (.type "bytes") [.ref x]) Q E s := by
  refine callType_codes (Q₁ := fun obj s₁ => s₁.TypeIs obj "bytes" ∧ Q obj s₁) PySem.F.bm_called (PySem.F.bm_typeCall _) PySem.F.entry_object_init
    (bb_new F N hr hb fun h' F' N' => ⟨PySem.W.typeIs_bytes _ _ _, hQ h' _ _ F' N'⟩) fun obj s₁ h₁ => ?_
  exact ⟨h₁.1, PySem.F.args_object_init_2 obj _, object_init_meets PySem.F.bm_called.init.lookup PySem.F.bm_called.made (by decide) prog w A.in1 _ s₁ ⟨h₁.1, rfl, h₁.2⟩⟩
theorem ba_slot_set : Slot "bytearray" "__setitem__" "bytearray.__setitem__" :=
  .of (owner := "bytearray") (n := "__setitem__") (by rw [typeLookup_type, builtinLookup_eq_fast]; kernel_rfl) (by decide +kernel) (by decide +kernel) (by decide +kernel)
    (by first | exact .inl (by decide +kernel) | exact .inr (by decide +kernel)) (by rw [isSubtype_type]; kernel_rfl)
theorem ba_entry_set : entryFor table "bytearray.__setitem__" = some Builtin.«bytearray.__setitem__» := by first | exact entryFor_of_fast (by kernel_rfl) | exact entryFor_of_tree (by kernel_rfl)
theorem ba_args_set (a b c : Value) : argsOk "bytearray.__setitem__" ⟨[a, b, c], []⟩ := by unfold argsOk; kernel_rfl
theorem bi_asIdx0 (S : Setting) (n : Int) (t : Tok) : peek [] S (asIndex (.int n t)) = some n := by kernel_rfl
theorem ba_setItem {b : Array UInt8} {k v : Int} {t tv : Tok} {Q : Unit → Shared → Prop} (F : Fr h₀ L s.heap m) (N : News h₀ L s.heap ((x, baO b) :: rest)) (hr : ∀ q ∈ rest, q.1 ≠ x) (hk : 0 ≤ k) (hk2 : k < (b.size : Int)) (hb : b.size ≤ 1000000) (hv : 0 ≤ v) (hv2 : v < 256)
    (h : ∀ h', Fr h₀ L h' m → News h₀ L h' ((x, baO (b.setIfInBounds k.toNat v.toNat.toUInt8)) :: rest) → Q () { s with heap := h' }) : wpAny (model prog w) A (setItem (.ref x) (.int k t) (.int v tv)) Q E s := by
  have hx := (N _ (.head _)).1
  have hT : s.TypeIs (.ref x) "bytearray" := ⟨_, hx, rfl⟩
  unfold setItem
  try with_reducible refine wpAny_holding ?_
  first | refine wpAny_bind (wpAny_pure ?_) | skip
  refine wpAny_bind (wpAny_sequenceKey hT (by decide) ?_)
  refine wpAny_bind (wpAny_callSpecial?_slot (name := Str.ofString "__setitem__") hT ba_slot_set
    (wpAny_call_entry ba_slot_set hT ba_entry_set ?_ (ba_args_set _ _ _)))
  unfold Builtin.«bytearray.__setitem__»
  refine bm_if_false rfl ?_
  dsimp only
  refine wpAny_bind ?_
  unfold Builtin.Bytes.subscript?
  refine wpAny_bind ((Looks.of_peek (M := model prog w) (nil_in _) (bi_idx _ k t)).here ?_)
  refine bm_if_false rfl ?_
  refine wpAny_bind ((Looks.of_peek (M := model prog w) (nil_in _) (bi_asIdx0 _ k t)).here ?_)
  have c1 : Builtin.Bytes.fitsIndex k = true := by
    unfold Builtin.Bytes.fitsIndex
    have a1 : -(2 ^ 63 : Int) ≤ k := by omega
    have a2 : k < 2 ^ 63 := by omega
    simp only [a1, a2, decide_true, Bool.and_self]
  rw [c1]
  refine bm_if_false rfl ?_
  refine wpAny_pure ?_
  dsimp only
  refine wpAny_bind ?_
  unfold Builtin.Bytes.byteValue
  refine wpAny_bind ((Looks.of_peek (M := model prog w) (nil_in _) (bi_asIdx0 _ v tv)).here ?_)
  refine bm_if_false (by simp; omega) ?_
  refine wpAny_pure ?_
  refine wpAny_bind ?_
  unfold Builtin.Bytes.payload Builtin.Bytes.payload?
  refine wpAny_bind (wpAny_bind (wpAny_load hx ?_))
  refine wpAny_pure (wpAny_pure ?_)
  have e : seqIndex? k b.size = some k.toNat := by
    unfold seqIndex?
    have : ¬ k < 0 := by omega
    simp [this, hk, hk2]
  rw [e]
  dsimp only
  refine wpAny_bind (ba_write F N hr (by simp; exact hb) ?_)
  intro h' F' N'
  exact wpAny_pure ⟨.none, rfl, wpAny_pure (h h' F' N')⟩
end
end
-- U20
section
section
variable {w : World} {prog : Program} {p : Program} {lo : List Str} {mean : ExcName → Option Value} {mg mb : Str → Option Value} {A : Around} {E : Value → Shared → Prop} {s s₁ : Shared} {h₀ : Heap} {L : Addr} {m : Str → Option Value} {news : List (Addr × Obj)} {env : Env} {scope : Scope} {x : Str}
theorem comp_gen {elt : Expr} {Q : Value → Shared → Prop} {n : Nat} {P : Nat → Value → Prop} {St : Nat → Heap → Prop} {o : Obj} (W : Walks prog w A s₁.heap.objs.size [s₁.heap.objs.size] [s₁.heap.objs.size] n P St) (hst : St 0 (s₁.heap.push o)) (hn : n ≤ sizeLine)
    (F : Fr h₀ L s₁.heap m) (N : News h₀ L s₁.heap news) (G : Value → Value → Prop)
    (helt : ∀ C i v s₂ m₂ E', P i v → s₂.heap.Ns C m₂ → m₂ x = some v → (∀ b o, s₁.heap.get? b = some o → s₂.heap.get? b = some o) → wpAny (model prog w) A (eval elt (compEnv scope C env)) (fun r s₃ => G v r ∧ Keeps s₂ s₃) E' s₂)
    (done : ∀ (D : Addr) (ys : Array Value) c h' tk (vs : List Value), Fr h₀ L h' m → News h₀ L h' ((D, { cls := .type "list", data := .seq ys c }) :: news) → (∀ q ∈ news, q.1 ≠ D) → vs.length = n → (∀ j v, vs[j]? = some v → P j v) → Paired G vs ys.toList → Q (.ref D) { s₁ with heap := h', toks := tk }) :
    CompPost prog w A env scope x [] elt Q (.ref s₁.heap.objs.size) { s₁ with heap := s₁.heap.push o } := by
  have up : ∀ (h' : Heap), (∀ b o', b ∉ [s₁.heap.objs.size] → (s₁.heap.push o).get? b = some o' → h'.get? b = some o') → ∀ b o', s₁.heap.get? b = some o' → h'.get? b = some o' :=
    fun h' hk b o' e => hk b o' (old_not_new e) (Heap.get?_push_of_some _ e)
  refine ⟨fun _ => true, G, s₁.heap.objs.size, [s₁.heap.objs.size], [s₁.heap.objs.size], n, P, St, rfl, W, hn, hst, ?_, ⟨?_, ?_⟩, ?_⟩
  · intro b hb
    show b < (s₁.heap.push o).objs.size
    rw [Heap.size_push, List.mem_singleton.mp hb]
    exact Nat.lt_succ_self _
  · intro C i v s₃ m₃ E' hP hn hm hk htk
    exact wpAny_pure ⟨rfl, s₃.heap, s₃.toks, rfl, fun _ _ e => e⟩
  · intro C i v s₃ m₃ E' hP hp hn hm hk htk
    exact helt C i v s₃ m₃ E' hP hn hm (up _ hk)
  · intro D h' tk ys vs hD hl hpl hlen hP hF hk
    obtain ⟨c, hc⟩ := hpl
    have kk := up h' hk
    have ht : vs.filter (fun _ => true) = vs := by simp
    rw [ht] at hF
    have hne : ∀ b o', s₁.heap.get? b = some o' → b ≠ D := by
      rintro b o' e rfl
      have := Heap.get?_push_of_some o e
      rw [hD] at this; cases this
    have hLD : L ≠ D := by
      obtain ⟨oL, _, _, hL, _⟩ := F.ns
      exact hne _ _ hL
    have h0D : h₀.get? D = none := by
      cases e : h₀.get? D with
      | none => rfl
      | some o' => exact absurd rfl (hne _ _ (F.keep _ _ e))
    refine done D ys c h' tk vs (F.keeps kk) ?_ (fun q hq => hne _ _ (N q hq).1) hlen hP hF
    intro q hq
    rcases List.mem_cons.mp hq with rfl | hq
    · exact ⟨hc, Ne.symm hLD, h0D⟩
    · exact ⟨kk _ _ (N q hq).1, (N q hq).2⟩
theorem src_str {elt : Expr} {Q : Value → Shared → Prop} {y : Str} {t : Tok} (hh : A.handled = none) (F : Fr h₀ L s₁.heap m) (N : News h₀ L s₁.heap news) (hn : y.cps.size ≤ 1000000) (G : Nat → Value → Prop)
    (helt : ∀ C c u s₂ m₂ E', c ∈ y.cps.toList → s₂.heap.Ns C m₂ → m₂ x = some (.str ⟨#[c]⟩ u) → (∀ b o, s₁.heap.get? b = some o → s₂.heap.get? b = some o) → wpAny (model prog w) A (eval elt (compEnv scope C env)) (fun r s₃ => G c r ∧ Keeps s₂ s₃) E' s₂)
    (done : ∀ (D : Addr) (ys : Array Value) c h' tk, Fr h₀ L h' m → News h₀ L h' ((D, { cls := .type "list", data := .seq ys c }) :: news) → (∀ q ∈ news, q.1 ≠ D) → Paired G y.cps.toList ys.toList → Q (.ref D) { s₁ with heap := h', toks := tk }) :
    wpAny (model prog w) A (pyIter (.str y t)) (CompPost prog w A env scope x [] elt Q) E s₁ := by
  refine wpAny_pyIter_str fun o St W hst => ?_
  refine comp_gen (W A hh) hst (by rw [sizeLine_eq]; omega) F N (fun v r => ∃ c u, v = Value.str ⟨#[c]⟩ u ∧ G c r) ?_ ?_
  · rintro C i v s₂ m₂ E' ⟨c, u, hc, rfl⟩ hn hm hk
    have hc' : c ∈ y.cps.toList := by
      have : c ∈ y.cps := Array.mem_of_getElem? hc
      simpa using this
    exact wpAny_mono (helt C c u s₂ m₂ E' hc' hn hm hk) (fun r s₃ h => ⟨⟨c, u, rfl, h.1⟩, h.2⟩) fun _ _ e => e
  · intro D ys c h' tk vs F' N' hne hlen hP hG
    refine done D ys c h' tk F' N' hne ?_
    have key : ∀ (l : List Nat) (vs : List Value) (ys : List Value), vs.length = l.length → (∀ (j : Nat) (v : Value), vs[j]? = some v → ∃ (c : Nat) (u : Tok), l[j]? = some c ∧ v = Value.str ⟨#[c]⟩ u) → Paired (fun v r => ∃ c u, v = Value.str ⟨#[c]⟩ u ∧ G c r) vs ys → Paired G l ys := by
      intro l vs ys hl hP hG
      induction hG generalizing l with
      | nil =>
        cases l with
        | nil => exact .nil
        | cons _ _ => cases hl
      | @cons a b l₁ l₂ h1 _ ih =>
        cases l with
        | nil => cases hl
        | cons c r =>
          obtain ⟨c', u, e, rfl⟩ := hP 0 _ rfl
          obtain ⟨c2, u2, e2, h2⟩ := h1
          simp only [List.getElem?_cons_zero, Option.some.injEq] at e
          subst e
          simp only [Value.str.injEq, Str.mk.injEq, Array.mk.injEq, List.cons.injEq, and_true] at e2
          obtain ⟨rfl, rfl⟩ := e2
          exact .cons h2 (ih r (by simpa using hl) fun j v hv => hP (j + 1) v (by simpa using hv))
    refine key _ vs _ (by simpa using hlen) ?_ hG
    intro j v hv
    obtain ⟨c, u, hc, rfl⟩ := hP j v hv
    exact ⟨c, u, by simpa using hc, rfl⟩
theorem src_bytes {elt : Expr} {Q : Value → Shared → Prop} {l : List UInt8} {t : Tok} (hh : A.handled = none) (F : Fr h₀ L s₁.heap m) (N : News h₀ L s₁.heap news) (hn : l.length ≤ 1000000) (G : UInt8 → Value → Prop)
    (helt : ∀ C (c : UInt8) u s₂ m₂ E', c ∈ l → s₂.heap.Ns C m₂ → m₂ x = some (.int (c.toNat : Int) u) → (∀ b o, s₁.heap.get? b = some o → s₂.heap.get? b = some o) → wpAny (model prog w) A (eval elt (compEnv scope C env)) (fun r s₃ => G c r ∧ Keeps s₂ s₃) E' s₂)
    (done : ∀ (D : Addr) (ys : Array Value) c h' tk, Fr h₀ L h' m → News h₀ L h' ((D, { cls := .type "list", data := .seq ys c }) :: news) → (∀ q ∈ news, q.1 ≠ D) → Paired G l ys.toList → Q (.ref D) { s₁ with heap := h', toks := tk }) :
    wpAny (model prog w) A (pyIter (.bytes l.toArray t)) (CompPost prog w A env scope x [] elt Q) E s₁ := by
  refine PySem.W.KBw.pyIter_bytes ?_
  have W := PySem.W.KBw.walks (prog := prog) (w := w) (A := A) hh s₁.heap.objs.size l.toArray t
  refine comp_gen W ⟨_, Heap.get?_push_size _ rfl, rfl, rfl⟩ (by rw [sizeLine_eq]; simp; omega) F N (fun v r => ∃ (c : UInt8) (u : Tok), v = Value.int (c.toNat : Int) u ∧ G c r) ?_ ?_
  · rintro C i v s₂ m₂ E' hP hn hm hk
    obtain ⟨c, u, hc, rfl⟩ := hP
    have hc' : c ∈ l := by
      have : c ∈ l.toArray := Array.mem_of_getElem? hc
      simpa using this
    exact wpAny_mono (helt C c u s₂ m₂ E' hc' hn hm hk) (fun r s₃ h => ⟨⟨c, u, rfl, h.1⟩, h.2⟩) fun _ _ e => e
  · intro D ys c h' tk vs F' N' hne hlen hP hG
    refine done D ys c h' tk F' N' hne ?_
    have key : ∀ (l : List UInt8) (vs : List Value) (ys : List Value), vs.length = l.length → (∀ (j : Nat) (v : Value), vs[j]? = some v → ∃ (c : UInt8) (u : Tok), l[j]? = some c ∧ v = Value.int (c.toNat : Int) u) → Paired (fun v r => ∃ (c : UInt8) (u : Tok), v = Value.int (c.toNat : Int) u ∧ G c r) vs ys → Paired G l ys := by
      intro l vs ys hl hP hG
      induction hG generalizing l with
      | nil =>
        cases l with
        | nil => exact .nil
        | cons _ _ => cases hl
      | @cons a b l₁ l₂ h1 _ ih =>
        cases l with
        | nil => cases hl
        | cons c r =>
          obtain ⟨c', u, e, rfl⟩ := hP 0 _ rfl
          obtain ⟨c2, u2, e2, h2⟩ := h1
          simp only [List.getElem?_cons_zero, Option.some.injEq] at e
          subst e
          simp only [Value.int.injEq] at e2
          obtain ⟨e3, rfl⟩ := e2
          have : c = c2 := UInt8.toNat_inj.mp (by omega)
          subst this
          exact .cons h2 (ih r (by simpa using hl) fun j v hv => hP (j + 1) v (by simpa using hv))
    refine key _ vs _ (by simpa using hlen) ?_ hG
    intro j v hv
    obtain ⟨c, u, hc, rfl⟩ := hP j v hv
    exact ⟨c, u, by simpa using hc, rfl⟩
theorem elt_bi {K : Frag} {fid : String} {fn : Str} {p1 p2 p3 : Pos} {C : Addr} {m₂ : Str → Option Value} {v : Value} {Q : Value → Shared → Prop} (X : K.In s.heap) (T : Top p lo mean mg mb s.heap) (e : nsIn K mainGlobals fn = some none) (hv : bootBuiltins fn = some (.builtin fid)) (hne : fn ≠ "__name__")
    (hd : (fn == ("__debug__" : Str)) = false) (hd2 : (x == ("__debug__" : Str)) = false) (hg : env.globals = mainGlobals) (hb : env.builtins = builtinsNs) (hk : scope.kind = .function) (h1 : scope.names.lookup fn = some .globalImplicit) (h2 : scope.names.lookup x = some .local)
    (hn : s.heap.Ns C m₂) (hm : m₂ x = some v) (h : wpAny (model prog w) A (call (.builtin fid) [v]) Q E s) :
    wpAny (model prog w) A (eval (.Call (.Name fn p1) [.Name x p2] [] p3) (compEnv scope C env)) Q E s := by
  have TR : TopRead p lo mg mb s.heap := topRead_of T
  refine wpAny_Call_Name_kw ?_
  refine Name_function_global (env := compEnv scope C env) hk h1 (loadGlobal_builtin (env := compEnv scope C env) (mg := mg) (by (show s.heap.Ns env.globals mg); rw [hg]; exact TR.g) (mg_none_of X TR.g e) (by (show s.heap.Ns env.builtins mb); rw [hb]; exact TR.b) ((TR.builtins fn hne).trans hv) ?_) hd
  refine PySem.callWith_builtin1 ?_
  (show wpAny _ _ (eval (.Name x p2) _) _ _ _)
  refine wpAny_Name (wpAny_loadName_local (env := compEnv scope C env) hk h2 hn hm ?_) hd2
  exact h
end
end
-- U21
section
section
variable {w : World} {prog : Program} {p : Program} {lo : List Str} {mean : ExcName → Option Value} {mg mb : Str → Option Value} {A : Around} {E : Value → Shared → Prop} {s s₁ : Shared} {h₀ : Heap} {L : Addr} {m : Str → Option Value} {news : List (Addr × Obj)} {env : Env} {scope : Scope} {x : Str}
def LcR (prog : Program) (w : World) (A : Around) (h₀ : Heap) (L : Addr) (env : Env) (elt : Expr) (x : Str) (scope : Scope) (cl : List (Str × Addr)) (G : Nat → Value → Prop) (Q : Value → Shared → Prop) (xv : Value) (s₁ : Shared) : Prop :=
  ∃ (m : Str → Option Value) (news : List (Addr × Obj)) (r : Addr) (b : Int) (t u v : Tok) (n : Nat), xv = .ref r ∧ A.handled = none ∧ IsRange s₁.heap r 0 b 1 t u v ∧ Builtin.Range.small 0 b 1 = true ∧ Builtin.Range.rangeSize 0 b 1 = (n : Int) ∧ n ≤ 1000000 ∧ Fr h₀ L s₁.heap m ∧ News h₀ L s₁.heap news ∧
      (∀ C (i : Nat) t s₂ m₂ E', i < n → s₂.heap.Ns C m₂ → m₂ x = some (.int (i : Int) t) → (∀ b o, s₁.heap.get? b = some o → s₂.heap.get? b = some o) → wpAny (model prog w) A (eval elt (compEnvC scope cl C env)) (fun r s₃ => G i r ∧ Keeps s₂ s₃) E' s₂) ∧
      (∀ (D : Addr) (ys : Array Value) c h' tk, Fr h₀ L h' m → News h₀ L h' ((D, { cls := .type "list", data := .seq ys c }) :: news) → (∀ q ∈ news, q.1 ≠ D) → Paired G (List.range n) ys.toList → Q (.ref D) { s₁ with heap := h', toks := tk })
theorem lc_range {elt iter : Expr} {px pos : Pos} {cl : List (Str × Addr)} {Q : Value → Shared → Prop} (G : Nat → Value → Prop) (hclos : closureFor scope env = pure cl) (hcell : ∀ y ∈ scope.names, y.2 ≠ .cell) (hkind : scope.kind = .function)
    (hnames : ∀ y ∈ scope.names, y.2 = .local → scope.names.lookup y.1 = some .local) (hx : scope.names.lookup x = some .local)
    (h : wpAny (model prog w) A (eval iter env) (fun xv s₁ => LcR prog w A h₀ L env elt x scope cl G Q xv s₁) E s)
    (hs : ∀ x, foldedSetIterable iter env x = pure x := by intro _; rfl) :
    wpAny (model prog w) A (eval (.ListComp elt [⟨.Name x px, iter, [], 0⟩] scope pos) env) Q E s := by
  refine wpAny_ListComp_free (fun _ => true) (fun v r => ∃ (i : Nat) (t : Tok), v = Value.int (i : Int) t ∧ G i r) hclos hcell hkind hnames hx (wpAny_mono h (fun xv s₁ h₁ => ?_) fun _ _ e => e) hs
  obtain ⟨m, news, r, b, t, u, v, n, rfl, hh, hr, hsm, hn, hz, F, N, helt, done⟩ := h₁
  refine wpAny_pyIter_range hr hsm ?_
  have W := (Walks.range (prog := prog) (w := w) (A := A) hh s₁.heap.objs.size 0 1 n).bound
  rw [hn]
  generalize ho : ({ cls := .type "range_iterator", data := .fields #[rawInt 0, rawInt (n : Int), rawInt 1] } : Obj) = o
  have up : ∀ (h' : Heap), (∀ b o', b ∉ [s₁.heap.objs.size] → (s₁.heap.push o).get? b = some o' → h'.get? b = some o') → ∀ b o', s₁.heap.get? b = some o' → h'.get? b = some o' :=
    fun h' hk b o' e => hk b o' (old_not_new e) (Heap.get?_push_of_some _ e)
  refine ⟨s₁.heap.objs.size, [s₁.heap.objs.size], [s₁.heap.objs.size], n, _, _, rfl, W, by rw [sizeLine_eq]; omega, ?_, ?_, ⟨?_, ?_⟩, ?_⟩
  · show IsRangeIter _ _ _ _ _
    rw [← ho]
    simpa using Heap.get?_push_size s₁.heap rfl
  · intro b hb
    show b < (s₁.heap.push o).objs.size
    rw [Heap.size_push, List.mem_singleton.mp hb]
    exact Nat.lt_succ_self _
  · intro C i v s₃ m₃ E' _ hP hn hm hk htk
    exact wpAny_pure ⟨rfl, s₃.heap, s₃.toks, rfl, fun _ _ e => e⟩
  · intro C i v s₃ m₃ E' hC hP hp hn' hm hk htk
    obtain ⟨hi, t, rfl⟩ := hP
    have e : (0 + (i : Int) * 1) = (i : Int) := by omega
    rw [e] at hm ⊢
    exact wpAny_mono (helt C i t s₃ m₃ E' hi hn' hm (up _ hk)) (fun r s₄ h => ⟨⟨i, t, rfl, h.1⟩, h.2⟩) fun _ _ e => e
  · intro D h' tk ys vs hD hl hpl hlen hP hF hk
    obtain ⟨c, hc⟩ := hpl
    have kk := up h' hk
    have ht : vs.filter (fun _ => true) = vs := by simp
    rw [ht] at hF
    have hne : ∀ b o', s₁.heap.get? b = some o' → b ≠ D := by
      rintro b o' e rfl
      have := Heap.get?_push_of_some o e
      rw [hD] at this; cases this
    have hLD : L ≠ D := by
      obtain ⟨oL, _, _, hL, _⟩ := F.ns
      exact hne _ _ hL
    have h0D : h₀.get? D = none := by
      cases e : h₀.get? D with
      | none => rfl
      | some o' => exact absurd rfl (hne _ _ (F.keep _ _ e))
    refine done D ys c h' tk (F.keeps kk) ?_ (fun q hq => hne _ _ (N q hq).1) ?_
    · intro q hq
      rcases List.mem_cons.mp hq with rfl | hq
      · exact ⟨hc, Ne.symm hLD, h0D⟩
      · exact ⟨kk _ _ (N q hq).1, (N q hq).2⟩
    have key : ∀ (k : Nat) (vs : List Value) (ys : List Value), (∀ (j : Nat) (v : Value), vs[j]? = some v → ∃ t : Tok, v = Value.int ((k + j : Nat) : Int) t) → Paired (fun v r => ∃ (i : Nat) (t : Tok), v = Value.int (i : Int) t ∧ G i r) vs ys → Paired G (List.range' k vs.length) ys := by
      intro k vs ys hP hG
      induction hG generalizing k with
      | nil => exact .nil
      | @cons a b l₁ l₂ h1 _ ih =>
        obtain ⟨t, rfl⟩ := hP 0 _ rfl
        obtain ⟨i, t2, e2, h2⟩ := h1
        simp only [Value.int.injEq] at e2
        obtain ⟨e3, rfl⟩ := e2
        have : i = k := by omega
        subst this
        refine .cons h2 (ih (i + 1) fun j v hv => ?_)
        obtain ⟨t, e⟩ := hP (j + 1) v (by simpa using hv)
        exact ⟨t, by rw [e]; congr 2; omega⟩
    have := key 0 vs ys.toList (fun j v hv => by
      obtain ⟨_, t, e⟩ := hP j v hv
      exact ⟨t, by rw [e]; congr 1; omega⟩) hF
    rw [hlen] at this
    rw [List.range_eq_range']
    exact this
end
end
-- U22
section
inductive Forest where
  | nil : Forest
  | cons (w : List Nat) (kids rest : Forest) : Forest
namespace Forest
def len : Forest → Nat
  | nil => 0
  | cons _ _ r => r.len + 1
def take : Nat → Forest → Forest
  | 0, _ => nil
  | _, nil => nil
  | k + 1, cons w c r => cons w c (take k r)
def drop : Nat → Forest → Forest
  | 0, f => f
  | _, nil => nil
  | k + 1, cons _ _ r => drop k r
def written : Forest → List (List Nat)
  | nil => []
  | cons w c r => w :: (c.written ++ r.written)
def size : Forest → Nat
  | nil => 0
  | cons _ c r => c.size + r.size + 1
end Forest
def grown (f : Option Forest) (w : List Nat) : Option Forest := match f with
  | none => none
  | some F => if F.len < w.length then none else some (.cons w.reverse (F.take w.length) (F.drop w.length))
abbrev lsO (acc : Array Value) (c : Nat) : Obj := { cls := .type "list", data := .seq acc c }
inductive FV (R : Addr → Obj → Prop) : List Value → Forest → Prop
  | nil : FV R [] .nil
  | cons {a : Addr} {c : Nat} {wv : Str} {t : Tok} {w : List Nat} {kv vs : List Value} {kids rest : Forest} : R a (lsO (.str wv t :: kv).toArray c) → wv.cps.toList = w → FV R kv kids → FV R vs rest → FV R (.ref a :: vs) (.cons w kids rest)
theorem FV.mono {R R' : Addr → Obj → Prop} (h : ∀ a o, R a o → R' a o) {vs : List Value} {F : Forest} (x : FV R vs F) : FV R' vs F := by
  induction x with
  | nil => exact .nil
  | cons h1 h2 _ _ ih1 ih2 => exact .cons (h _ _ h1) h2 ih1 ih2
theorem FV.length {R : Addr → Obj → Prop} {vs : List Value} {F : Forest} (x : FV R vs F) : vs.length = F.len := by
  induction x with
  | nil => rfl
  | cons h1 h2 _ _ ih1 ih2 => simp [Forest.len, ih2]
theorem FV.take {R : Addr → Obj → Prop} {vs : List Value} {F : Forest} (x : FV R vs F) : ∀ k, FV R (vs.take k) (F.take k) := by
  induction x with
  | nil => intro k; cases k <;> exact .nil
  | cons h1 h2 h3 _ ih1 ih2 =>
    intro k
    cases k with
    | zero => exact .nil
    | succ k => exact .cons h1 h2 h3 (ih2 k)
theorem FV.drop {R : Addr → Obj → Prop} {vs : List Value} {F : Forest} (x : FV R vs F) : ∀ k, FV R (vs.drop k) (F.drop k) := by
  induction x with
  | nil => intro k; cases k <;> exact .nil
  | cons h1 h2 h3 h4 ih1 ih2 =>
    intro k
    cases k with
    | zero => exact .cons h1 h2 h3 h4
    | succ k => exact ih2 k
inductive OV (R : Addr → Obj → Prop) : Value → Option Forest → Prop
  | none : OV R .none none
  | some {a : Addr} {c : Nat} {vs : List Value} {F : Forest} : R a (lsO vs.toArray c) → FV R vs F → OV R (.ref a) (some F)
theorem OV.mono {R R' : Addr → Obj → Prop} (h : ∀ a o, R a o → R' a o) {v : Value} {F : Option Forest} (x : OV R v F) : OV R' v F := by
  cases x with
  | none => exact .none
  | some h1 h2 => exact .some (h _ _ h1) (h2.mono h)
abbrev InH (h : Heap) : Addr → Obj → Prop := fun a o => h.get? a = some o
abbrev InP (P : Addr → Prop) (h : Heap) : Addr → Obj → Prop := fun a o => h.get? a = some o ∧ P a
theorem get_none_of {g h : Heap} (k : ∀ b o, g.get? b = some o → h.get? b = some o) {a : Addr} (e : h.get? a = none) : g.get? a = none := by
  cases q : g.get? a with
  | none => rfl
  | some o => have := k a o q; rw [e] at this; cases this
end
-- U23
section
section
variable {prog : Program} {w : World} {A : Around} {E : Value → Shared → Prop} {s : Shared} {env : Env} {h₀ : Heap} {x : Str} {body : List Stmt} {Q : Flow → Shared → Prop}
def JPost (h₀ : Heap) (L : Addr) (J : (Str → Option Value) → List (Addr × Obj) → Prop) (own : List (Addr × Obj)) (I : Addr) (s : Shared) (Q : Flow → Shared → Prop) (f : Flow) (s₂ : Shared) : Prop :=
  match f with
  | .ret v => Q (.ret v) s₂
  | .brk => Q .next s₂
  | _ => ∃ h' tk m' nx', s₂ = { s with heap := h', toks := tk } ∧ Fr h₀ L h' m' ∧ News h₀ L h' (own ++ nx') ∧ (∀ p ∈ nx', p.1 ≠ I) ∧ J m' nx'
theorem iter_listJ {l : Addr} {vs : List Value} {m₀ : Str → Option Value} {news : List (Addr × Obj)} (J : Nat → (Str → Option Value) → List (Addr × Obj) → Prop)
    (hh : A.handled = none) (hl : h₀.IsList l vs.toArray) (F : Fr h₀ env.locals s.heap m₀) (N : News h₀ env.locals s.heap news) (hj : J 0 m₀ news)
    (turn : ∀ i v m₁ nx h tk I oI own, vs[i]? = some v → J i m₁ nx → (I, oI) ∈ own → Fr h₀ env.locals h (fun y => if y = x then some v else m₁ y) → News h₀ env.locals h (own ++ nx) →
      wpAny (model prog w) A (execs body env) (JPost h₀ env.locals (J (i + 1)) own I s Q) E { s with heap := h, toks := tk })
    (done : ∀ m₁ nx h tk, J vs.length m₁ nx → Fr h₀ env.locals h m₁ → News h₀ env.locals h nx → Q .next { s with heap := h, toks := tk }) :
    wpAny (model prog w) A (pyIter (.ref l)) (fun it s₂ => LoopAtV prog w A h₀ env x body Q E it s₂) E s := by
  have hls : s.heap.IsList l vs.toArray := hl.at fun o e => F.keep l o e
  obtain ⟨ol, hol, _⟩ := id hl
  have hlt : l < h₀.objs.size := Heap.lt_size hol
  have hne : l ≠ s.heap.objs.size := Nat.ne_of_lt (Nat.lt_trans (Nat.lt_of_lt_of_le hlt F.above) F.ns.lt)
  refine wpAny_pyIter_list hls ?_
  have W := Walks.list (prog := prog) (w := w) hh s.heap.objs.size l hne vs.toArray
  have hlen : vs.toArray.size = vs.length := by simp
  rw [hlen] at W
  have hI0 : h₀.get? s.heap.objs.size = none := by
    cases e : h₀.get? s.heap.objs.size with
    | none => rfl
    | some o => exact absurd (Heap.lt_size (F.keep _ _ e)) (Nat.lt_irrefl _)
  refine ⟨_, _, _, vs.length, _, _, m₀, news, J, rfl, W, ?_, ?_, ?_, ⟨⟨_, Heap.get?_push_size _ rfl, rfl, rfl⟩, hls.at fun o e => Heap.get?_push_of_some _ e⟩, F.push _, (fun p hp => ⟨Heap.get?_push_of_some _ (N p hp).1, (N p hp).2⟩), hj, ?_, ?_⟩
  · intro hm
    rcases List.mem_cons.mp hm with e | hm
    · exact absurd F.ns.lt (e ▸ Nat.lt_irrefl _)
    · exact absurd (Nat.lt_of_lt_of_le hlt F.above) ((List.mem_singleton.mp hm) ▸ Nat.lt_irrefl _)
  · intro b hb
    rw [List.mem_singleton.mp hb]
    exact next_is_new F
  · intro p hp hI
    exact absurd (Heap.lt_size (N p hp).1) ((List.mem_singleton.mp hI) ▸ Nat.lt_irrefl _)
  · rintro i v m₁ nx s₁ own ⟨hh', tk', rfl⟩ hin hP hJ hoff hown _ hall hst F₁ N₁
    have hP' : vs[i]? = some v := by simpa using hP
    obtain ⟨oI, hoI⟩ : ∃ oI, (s.heap.objs.size, oI) ∈ own := by
      obtain ⟨⟨o, ho, _⟩, _⟩ := hst
      exact ⟨o, hall _ (.head _) hI0 o ho⟩
    refine wpAny_mono (turn i v m₁ nx hh' tk' _ oI own hP' hJ hoI F₁ N₁) (fun f s₂ p => ?_) fun _ _ e => e
    have fin : (∃ h' tk m' nx', s₂ = { s with heap := h', toks := tk } ∧ Fr h₀ env.locals h' m' ∧ News h₀ env.locals h' (own ++ nx') ∧ (∀ p ∈ nx', p.1 ≠ s.heap.objs.size) ∧ J (i + 1) m' nx') → LoopStepU h₀ env.locals [s.heap.objs.size] own (J (i + 1)) { s with heap := hh', toks := tk' } .next s₂ := by
      rintro ⟨h', tk, m', nx', rfl, F', N', ha, hm⟩
      exact ⟨rfl, h', tk, m', nx', rfl, F', N', fun p hp hq => ha p hp (List.mem_singleton.mp hq), hm⟩
    cases f with
    | ret v => exact .ret p
    | brk => exact .brk p
    | next => exact .next (fin p)
    | cont => exact .cont (fin p)
  · rintro h' tk m' news' F' N' _ hJ
    exact done m' news' h' tk hJ F' N'
end
end
-- U24
section
theorem FV.nth {R : Addr → Obj → Prop} {vs : List Value} {F : Forest} (x : FV R vs F) : ∀ (i : Nat) (v : Value), vs[i]? = some v → ∃ (a : Addr) (c : Nat) (wv : Str) (t : Tok) (kv : List Value) (kids : Forest), v = .ref a ∧ R a (lsO (.str wv t :: kv).toArray c) ∧ FV R kv kids ∧ (F.take (i + 1)).written = (F.take i).written ++ wv.cps.toList :: kids.written ∧ kids.size < F.size ∧ kv.length ≤ F.size := by
  induction x with
  | nil => intro i v h; simp at h
  | @cons a c wv t w kv vs kids rest h1 h2 h3 h4 ih1 ih2 =>
    intro i v h
    have hlen : kv.length ≤ kids.size := by
      clear ih1 ih2 h h4 h1 h2
      induction h3 with
      | nil => exact Nat.zero_le _
      | cons _ _ _ _ _ ih => simp only [List.length_cons, Forest.size]; omega
    cases i with
    | zero =>
      simp only [List.getElem?_cons_zero, Option.some.injEq] at h
      subst h
      refine ⟨a, c, wv, t, kv, kids, rfl, h1, h3, ?_, ?_, ?_⟩
      · subst h2
        cases rest <;> simp [Forest.take, Forest.written]
      · simp only [Forest.size]; omega
      · simp only [Forest.size]; omega
    | succ i =>
      simp only [List.getElem?_cons_succ] at h
      obtain ⟨a', c', wv', t', kv', kids', e, r, f, hw, hs, hl⟩ := ih2 i v h
      refine ⟨a', c', wv', t', kv', kids', e, r, f, ?_, ?_, ?_⟩
      · simp only [Forest.take, Forest.written, List.cons_append, List.append_assoc] at hw ⊢
        rw [hw]
      · simp only [Forest.size]; omega
      · simp only [Forest.size]; omega
theorem Forest.take_len (F : Forest) : F.take F.len = F := by
  induction F with
  | nil => rfl
  | cons w c r _ ih => simp only [Forest.len, Forest.take, ih]
theorem Forest.take_zero (F : Forest) : F.take 0 = .nil := by cases F <;> rfl
theorem Forest.written_len (F : Forest) : F.written.length = F.size := by
  induction F with
  | nil => rfl
  | cons w c r ih1 ih2 => simp only [Forest.written, Forest.size, List.length_cons, List.length_append, ih1, ih2]
theorem Forest.take_size (F : Forest) : ∀ k, (F.take k).size ≤ F.size := by
  induction F with
  | nil => intro k; cases k <;> exact Nat.le_refl _
  | cons w c r _ ih =>
    intro k
    cases k with
    | zero => exact Nat.zero_le _
    | succ k => have := ih k; simp only [Forest.take, Forest.size]; omega
theorem Forest.len_le_size (F : Forest) : F.len ≤ F.size := by
  induction F with
  | nil => exact Nat.le_refl _
  | cons w c r _ ih => simp only [Forest.len, Forest.size]; omega
end
-- U25
section
section
variable {prog : Program} {w : World} {A : Around} {E : Value → Shared → Prop} {s : Shared} {env : Env}
theorem codeN_forLoop {R : Result → Shared → Prop} {target : Expr} {it : Value} {body : List Stmt} (Iv : Nat → Shared → Prop)
    (turn : ∀ n s (E' : Value → Shared → Prop), Iv n s → wpAny (model prog w) A (pyNext it) (fun r s₁ => match r with
      | none => R (.ok .next) s₁
      | some v => wpAny (model prog w) A (assign target env v) (fun _ s₂ => wpN (model prog w) A (execs body env) (fun f s₃ => (f = .next ∨ f = .cont) ∧ ∃ m, m < n ∧ Iv m s₃) E' s₂) E' s₁) E' s)
    (ht : ∀ v, letOwnedTupleGo target it v = pure ()) : ∀ (n : Nat) (s : Shared), Iv n s → codeN (model prog w) A (.forLoop target it body [] env) R s := by
  intro n
  induction n using Nat.strongRecOn with
  | ind n ih =>
    intro s h
    refine codeN_of_tree rfl ?_
    rw [Around.under_of_weight rfl rfl]
    show wpN _ _ ((forTurn target it body [] env).onRaise (fun x => do noteFrame x env; theTreesLotGoes x)) _ _ s
    refine wpN_onRaise ?_
    simp only [forTurn]
    refine wpN_bind (wpN_any (wpAny_standAt ?_))
    refine wpN_bind (wpN_any (wpAny_onRaise (wpAny_mono (turn n s _ h) (fun r s₁ h₁ => ?_) fun _ _ h' => wpAny_standAt h')))
    cases r with
    | none => exact wpN_pure ⟨rfl, codeN_any (codeAny_block (wpAny_execs_nil h₁))⟩
    | some v =>
      refine wpN_bind (wpN_any (wpAny_of_eq (ht v) ?_))
      refine wpN_bind (wpN_any (wpAny_mono h₁ (fun _ s₂ h₂ => ?_) fun _ _ h' => h'))
      refine wpN_bind (wpN_mono h₂ (fun f s₃ h₃ => ?_) fun _ _ h' => h')
      obtain ⟨hf, m, hm, hI⟩ := h₃
      rcases hf with rfl | rfl
      · exact wpN_pure ⟨rfl, ih m hm s₃ hI⟩
      · exact wpN_pure ⟨rfl, ih m hm s₃ hI⟩
theorem execN_For {M : Model} {target iter body orelse pos} {Q : Flow → Shared → Prop}
    (h : wpAny M A (eval iter env) (fun x s₁ => wpAny M A (pyIter x) (fun it s₂ =>
      codeN M A (.forLoop target it body orelse env) (fun r s' => match r with | .ok f => Q f s' | .error e => cameBackBy M A env E e s') s₂) E s₁) E s)
    (hs : ∀ x, foldedSetIterable iter env x = pure x := by intro _; rfl) :
    wpN M A (exec (.For target iter body orelse pos) env) Q E s := by
  rw [exec_For]
  refine wpN_bind (wpN_any (wpAny_standAt ?_))
  refine wpN_bind (wpN_any (wpAny_mono h (fun x s₁ h₁ => ?_) fun _ _ h' => h'))
  refine wpN_bind (wpN_any (wpAny_of_eq (hs x) ?_))
  refine wpN_bind (wpN_any (wpAny_standAt ?_))
  refine wpN_bind (wpN_any (wpAny_holding (wpAny_mono h₁ (fun it s₂ h₂ => ?_) fun _ _ h' => h')))
  exact wpN_runOwn h₂
end
theorem FV.monoL {R R' : Addr → Obj → Prop} (h : ∀ a acc c, R a (lsO acc c) → R' a (lsO acc c)) {vs : List Value} {F : Forest} (x : FV R vs F) : FV R' vs F := by
  induction x with
  | nil => exact .nil
  | cons h1 h2 _ _ ih1 ih2 => exact .cons (h _ _ _ h1) h2 ih1 ih2
theorem OV.monoL {R R' : Addr → Obj → Prop} (h : ∀ a acc c, R a (lsO acc c) → R' a (lsO acc c)) {v : Value} {F : Option Forest} (x : OV R v F) : OV R' v F := by
  cases x with
  | none => exact .none
  | some h1 h2 => exact .some (h _ _ _ h1) (h2.monoL h)
theorem ov_but {P : Addr → Prop} {h h' : Heap} {v : Value} {F : Option Forest} (x : OV (InP P h) v F) (y : Addr) (hy : ∀ acc c, h.get? y ≠ some (lsO acc c)) (hk : ∀ b o, b ≠ y → h.get? b = some o → h'.get? b = some o) : OV (InP P h') v F :=
  x.monoL fun a acc c e => ⟨hk a _ (by rintro rfl; exact hy _ _ e.1) e.1, e.2⟩
theorem Forest.drop_len (F : Forest) : ∀ k, (F.drop k).len ≤ F.len := by
  induction F with
  | nil => intro k; cases k <;> exact Nat.le_refl _
  | cons w c r _ ih =>
    intro k
    cases k with
    | zero => exact Nat.le_refl _
    | succ k => have := ih k; simp only [Forest.drop, Forest.len]; omega
theorem grown_len {f : Option Forest} {w : List Nat} {F : Forest} {n : Nat} (h : ∀ G, f = Option.some G → G.len ≤ n) (e : grown f w = Option.some F) : F.len ≤ n + 1 := by
  cases f with
  | none => cases e
  | some G =>
    have h1 := h G rfl
    have e : (if G.len < w.length then none else Option.some (Forest.cons w.reverse (G.take w.length) (G.drop w.length))) = Option.some F := e
    split at e
    · cases e
    · cases e
      have := G.drop_len w.length
      simp only [Forest.len]
      omega
theorem fold_len (l : List (List Nat)) : ∀ (f : Option Forest) (n : Nat), (∀ G, f = Option.some G → G.len ≤ n) → ∀ F, l.foldl grown f = Option.some F → F.len ≤ n + l.length := by
  induction l with
  | nil => intro f n h F e; exact h F e
  | cons w r ih =>
    intro f n h F e
    have := ih (grown f w) (n + 1) (fun G eG => grown_len h eG) F e
    simp only [List.length_cons]
    omega
theorem isIter_not {h : Heap} {I l : Addr} {i : Nat} (x : h.IsListIter I l i) : ∀ acc c, h.get? I ≠ Option.some (lsO acc c) := by
  intro acc c e
  obtain ⟨o, ho, hc, _⟩ := x
  rw [ho] at e
  cases e
  injection hc with hc
  exact absurd hc (by decide)
theorem ns_not {h : Heap} {L : Addr} {m : Str → Option Value} (x : h.Ns L m) : ∀ acc c, h.get? L ≠ Option.some (lsO acc c) := by
  intro acc c e
  obtain ⟨o, es, ep, ho, hd, _⟩ := x
  rw [ho] at e
  cases e
  cases hd
end
-- U28
section
def Stop (P : Prop) : Prop := P
theorem stop_in {P : Prop} (h : Stop P) : P := h
section
variable {w : World} {prog : Program} {p : Program} {lo : List Str} {mean : ExcName → Option Value} {mg mb : Str → Option Value} {A : Around} {E : Value → Shared → Prop} {s s₁ : Shared} {h₀ : Heap} {L : Addr} {m : Str → Option Value} {news : List (Addr × Obj)} {env : Env} {scope : Scope} {x : Str}
theorem src_list {elt : Expr} {ifs : List Expr} {Q : Value → Shared → Prop} {l : Addr} {items : List Value} (hh : A.handled = none) (F : Fr h₀ L s₁.heap m) (N : News h₀ L s₁.heap news) (hl : s₁.heap.IsList l items.toArray) (hn : items.length ≤ 1000000) (pt : Value → Bool) (G : Value → Value → Prop)
    (htest : ∀ C v s₂ m₂ E', v ∈ items → s₂.heap.Ns C m₂ → m₂ x = some v → (∀ b o, s₁.heap.get? b = some o → s₂.heap.get? b = some o) →
      wpAny (model prog w) A (forIn ifs true fun c r => if r = true then do let ok ← isTrue c (compEnv scope C env) (eval c (compEnv scope C env)); pure (ForInStep.yield ok) else pure (ForInStep.yield r)) (fun ok s₃ => ok = pt v ∧ Keeps s₂ s₃) E' s₂)
    (helt : ∀ C v s₂ m₂ E', v ∈ items → s₂.heap.Ns C m₂ → m₂ x = some v → (∀ b o, s₁.heap.get? b = some o → s₂.heap.get? b = some o) → wpAny (model prog w) A (eval elt (compEnv scope C env)) (fun r s₃ => G v r ∧ Keeps s₂ s₃) E' s₂)
    (done : ∀ (D : Addr) (ys : Array Value) c h' tk, Fr h₀ L h' m → News h₀ L h' ((D, { cls := .type "list", data := .seq ys c }) :: news) → (∀ q ∈ news, q.1 ≠ D) → Paired G (items.filter pt) ys.toList → Q (.ref D) { s₁ with heap := h', toks := tk }) :
    wpAny (model prog w) A (pyIter (.ref l)) (CompPost prog w A env scope x ifs elt Q) E s₁ := by
  obtain ⟨ol, hol, _⟩ := id hl
  have hlt : @LT.lt Nat _ l s₁.heap.objs.size := Heap.lt_size hol
  refine wpAny_pyIter_list hl ?_
  generalize ho : ({ cls := .type "list_iterator", data := .fields #[.ref l, .int 0 0] } : Obj) = o
  have W := Walks.list (prog := prog) (w := w) hh s₁.heap.objs.size l (Nat.ne_of_lt hlt) items.toArray
  have up : ∀ (h' : Heap), (∀ b o', b ∉ [s₁.heap.objs.size] → (s₁.heap.push o).get? b = some o' → h'.get? b = some o') → ∀ b o', s₁.heap.get? b = some o' → h'.get? b = some o' :=
    fun h' hk b o' e => hk b o' (old_not_new e) (Heap.get?_push_of_some _ e)
  refine ⟨pt, G, s₁.heap.objs.size, _, [s₁.heap.objs.size], items.toArray.size, _, _, rfl, W, by rw [sizeLine_eq]; simp; omega, ?_, ?_, ⟨?_, ?_⟩, ?_⟩
  · refine ⟨⟨o, ?_, ?_, ?_⟩, hl.at fun o' e => Heap.get?_push_of_some _ e⟩
    · exact Heap.get?_push_size _ (by rw [← ho]; rfl)
    · rw [← ho]
    · rw [← ho]; rfl
  · intro b hb
    show @LT.lt Nat _ b (s₁.heap.push o).objs.size
    rw [Heap.size_push]
    rcases List.mem_cons.mp hb with rfl | hb
    · exact Nat.lt_succ_self _
    · rw [List.mem_singleton.mp hb]
      exact Nat.lt_succ_of_lt hlt
  · intro C i v s₃ m₃ E' hP hn hm hk htk
    exact htest C v s₃ m₃ E' (by have := Array.mem_of_getElem? hP; simpa using this) hn hm (up _ hk)
  · intro C i v s₃ m₃ E' hP hp hn hm hk htk
    exact helt C v s₃ m₃ E' (by have := Array.mem_of_getElem? hP; simpa using this) hn hm (up _ hk)
  · intro D h' tk ys vs hD hl' hpl hlen hP hF hk
    obtain ⟨c, hc⟩ := hpl
    have kk := up h' hk
    have hvs : vs = items := by
      apply List.ext_getElem?
      intro j
      cases e : vs[j]? with
      | none =>
        have := List.getElem?_eq_none_iff.mp e
        symm
        apply List.getElem?_eq_none_iff.mpr
        simp at hlen
        omega
      | some v =>
        have := hP j v e
        simpa using this.symm
    rw [hvs] at hF
    have hne : ∀ b o', s₁.heap.get? b = some o' → b ≠ D := by
      rintro b o' e rfl
      have := Heap.get?_push_of_some o e
      rw [hD] at this; cases this
    have hLD : L ≠ D := by
      obtain ⟨oL, _, _, hL, _⟩ := F.ns
      exact hne _ _ hL
    have h0D : h₀.get? D = none := by
      cases e : h₀.get? D with
      | none => rfl
      | some o' => exact absurd rfl (hne _ _ (F.keep _ _ e))
    refine done D ys c h' tk (F.keeps kk) ?_ (fun q hq => hne _ _ (N q hq).1) hF
    intro q hq
    rcases List.mem_cons.mp hq with rfl | hq
    · exact ⟨hc, Ne.symm hLD, h0D⟩
    · exact ⟨kk _ _ (N q hq).1, (N q hq).2⟩
theorem elt_fn {K : Frag} {f : Addr} {fn : Str} {p1 p2 p3 : Pos} {C : Addr} {m₂ : Str → Option Value} {v : Value} {Q : Value → Shared → Prop} (X : K.In s.heap) (T : Top p lo mean mg mb s.heap) (e : nsIn K mainGlobals fn = some (some (.ref f))) (hkp : keepIn K (.ref f) = true)
    (hd : (fn == ("__debug__" : Str)) = false) (hd2 : (x == ("__debug__" : Str)) = false) (hg : env.globals = mainGlobals) (hk : scope.kind = .function) (h1 : scope.names.lookup fn = some .globalImplicit) (h2 : scope.names.lookup x = some .local)
    (hn : s.heap.Ns C m₂) (hm : m₂ x = some v) (h : wpAny (model prog w) A (call (.ref f) [v]) Q E s) :
    wpAny (model prog w) A (eval (.Call (.Name fn p1) [.Name x p2] [] p3) (compEnv scope C env)) Q E s := by
  refine wpAny_Call_Name_kw ?_
  refine Name_function_global (env := compEnv scope C env) hk h1 (loadGlobal_global (env := compEnv scope C env) (mg := mg) (by (show s.heap.Ns env.globals mg); rw [hg]; exact T.g) (mg_of X T.g e) ?_) hd
  refine callWith_K X hkp ?_
  refine spliced_more ?_
  refine wpAny_Name (wpAny_loadName_local (env := compEnv scope C env) hk h2 hn hm ?_) hd2
  refine spliced_none ?_
  exact ⟨X, h⟩
end
end
-- U29
section
section
variable {prog : Program} {w : World} {A : Around} {E : Value → Shared → Prop} {s : Shared} {env : Env} {R : Result → Shared → Prop}
theorem codeN_compLoop {elt target iter : Expr} {scope : Scope} {pos : Pos} {it acc : Value} (Iv : Nat → Shared → Prop)
    (turn : ∀ n s (E' : Value → Shared → Prop), Iv n s → wpAny (model prog w) A (pyNext it) (fun r s₁ => match r with
      | none => R (.ok .next) s₁
      | some v => wpAny (model prog w) A (assign target env v) (fun _ s₂ => wpN (model prog w) A (eval elt env) (fun x s₃ => wpAny (model prog w) A (call (.builtin "list.append") [acc, x]) (fun _ s₄ => ∃ m, m < n ∧ Iv m s₄) E' s₃) E' s₂) E' s₁) E' s)
    (ht : ∀ v, letOwnedTupleGo target it v = pure ()) : ∀ (n : Nat) (s : Shared), Iv n s → codeN (model prog w) A (.compLoop (.ListComp elt [⟨target, iter, [], 0⟩] scope pos) 0 it acc env) R s := by
  intro n
  induction n using Nat.strongRecOn with
  | ind n ih =>
    intro s h
    refine codeN_of_tree rfl ?_
    rw [Around.under_of_weight rfl rfl]
    show wpN _ _ ((compTurn (.ListComp elt [⟨target, iter, [], 0⟩] scope pos) 0 it acc env).onRaise (fun x => do noteFrame x env; theTreesLotGoes x)) _ _ s
    refine wpN_onRaise ?_
    rw [compTurn_list1]
    refine wpN_bind (wpN_any (wpAny_standAt ?_))
    refine wpN_bind (wpN_any (wpAny_mono (turn n s _ h) (fun r s₁ h₁ => ?_) fun _ _ h' => h'))
    cases r with
    | none => exact wpN_pure h₁
    | some v =>
      refine wpN_bind (wpN_any (wpAny_of_eq (ht v) ?_))
      refine wpN_bind (wpN_any (wpAny_mono h₁ (fun _ s₂ h₂ => ?_) fun _ _ h' => h'))
      refine wpN_bind (wpN_bind (wpN_mono h₂ (fun x s₃ h₃ => ?_) fun _ _ h' => h'))
      refine wpN_bind (wpN_any (wpAny_mono h₃ (fun _ s₄ h₄ => ?_) fun _ _ h' => h'))
      obtain ⟨m, hm, hI⟩ := h₄
      exact wpN_pure (wpN_pure ⟨rfl, ih m hm s₄ hI⟩)
theorem codeN_compStart {elt target iter : Expr} {scope : Scope} {pos : Pos} {it acc : Value}
    (h0 : codeN (model prog w) A (.compLoop (.ListComp elt [⟨target, iter, [], 0⟩] scope pos) 0 it acc env) R s)
    (h : ∀ E' : Value → Shared → Prop, wpAny (model prog w) A (pyIter it) (fun it' s' => codeN (model prog w) A (.compLoop (.ListComp elt [⟨target, iter, [], 0⟩] scope pos) 0 it' acc env) R s') E' s) :
    codeN (model prog w) A (.compStart (.ListComp elt [⟨target, iter, [], 0⟩] scope pos) 0 it acc env) R s := by
  refine codeN_of_tree rfl ?_
  rw [Around.under_of_weight rfl rfl]
  show wpN _ _ ((compStart (.ListComp elt [⟨target, iter, [], 0⟩] scope pos) 0 it acc env).onRaise (fun x => do noteFrame x env; standAt theWindowsPlace)) _ _ s
  refine wpN_onRaise ?_
  unfold compStart
  show wpN _ _ (ask >>= _) _ _ s
  refine wpN_bind (wpN_any (wpAny_askSetting ?_))
  split
  · first
      | exact wpN_bind (wpN_pure (wpN_pure (And.intro rfl h0)))
      | exact wpN_pure (And.intro rfl h0)
  · first
      | exact wpN_bind (wpN_any (wpAny_rule (wpN_bind (wpN_any (wpAny_standAt (wpN_bind (wpN_any (wpAny_mono (h _) (fun it' s' h' => wpN_pure (And.intro rfl h')) fun _ _ x => x))))))))
      | (refine wpN_bind (wpN_any (wpAny_rule ?_)); show wpN _ _ (standAt iter.pos >>= _) _ _ s; exact wpN_bind (wpN_any (wpAny_standAt (wpN_bind (wpN_any (wpAny_mono (h _) (fun it' s' h' => wpN_pure (And.intro rfl h')) fun _ _ x => x))))))
theorem comprehensionN {M : Model} {e : Expr} {scope : Scope} {pos : Pos} {newAcc first : Sem Value} {g : Comprehension} {gs : List Comprehension} {cl : List (Str × Addr)} {u : Value → Sem Unit}
    {Q : Value → Shared → Prop}
    (hcl : clausesOf e = g :: gs) (hs : ∀ x, foldedSetIterable g.iter env x = pure x) (hclos : closureFor scope env = pure cl)
    (hkind : scope.kind = .function) (hnames : ∀ x ∈ scope.names, x.2 = .local → scope.names.lookup x.1 = some .local)
    (h : wpAny M A first (fun x s₁ => wpAny M A (pyIter x) (fun it s₂ => wpAny M A newAcc (fun acc s₃ =>
      wpAny M A (newFunctionEnv scope env.globals cl [] env.qual none .none (some env)) (fun cenv s₄ =>
        codeN M A (.compStart e 0 it acc { cenv with scope := relabel scope env }) (compPost M A E (some u) Q acc cenv.locals) s₄) E s₃) E s₂) E s₁) E s) :
    wpN M A (comprehension e scope env pos newAcc false first (some u)) Q E s := by
  unfold comprehension
  rw [hclos, hcl]
  refine wpN_bind (wpN_any (wpAny_mono h (fun x s₁ h₁ => ?_) fun _ _ h' => h'))
  refine wpN_bind (wpN_any (wpAny_standAt ?_))
  refine wpN_bind (wpN_any (wpAny_of_eq (hs x) ?_))
  refine wpN_bind (wpN_any (wpAny_holding (wpAny_mono h₁ (fun it s₂ h₂ => ?_) fun _ _ h' => h')))
  simp only [Option.isSome_some, if_true, Bool.false_eq_true, if_false]
  refine wpN_bind (wpN_any (wpAny_standAt ?_))
  refine wpN_bind (wpN_any (wpAny_mono h₂ (fun acc s₃ h₃ => ?_) fun _ _ h' => h'))
  refine wpN_bind (wpN_pure ?_)
  refine wpN_bind (wpN_any (wpAny_mono h₃ (fun cenv s₄ h₄ => ?_) fun _ _ h' => h'))
  try dsimp only
  have hv : ∀ x ∈ (scope.names.filter fun x => (x.2 == .local || x.2 == .cell) && x.1 != (".0" : Str)).reverse, x.2 = .local →
      Env.kindOf { cenv with scope := relabel scope env } x.1 = some .local := fun x hx hl => lookup_relabel_local (hnames x (List.mem_filter.mp (List.mem_reverse.mp hx)).1 hl)
  have hv' : ∀ x ∈ (scope.names.filter fun x => (x.2 == .local || x.2 == .cell) && x.1 != (".0" : Str)).reverse.drop 1 ++ (scope.names.filter fun x => (x.2 == .local || x.2 == .cell) && x.1 != (".0" : Str)).reverse.take 1,
      x.2 = .local → Env.kindOf { cenv with scope := relabel scope env } x.1 = some .local := fun x hx hl => by
    rcases List.mem_append.mp hx with h1 | h1
    · exact hv x (List.mem_of_mem_drop h1) hl
    · exact hv x (List.mem_of_mem_take h1) hl
  refine wpN_holding (wpN_bind (wpN_attempt (wpN_holding (wpN_run (codeN_mono h₄ fun r s' hr => ?_)))))
  cases r with
  | ok f =>
    refine wpN_bind (wpN_any (wpAny_rule ?_))
    refine wpN_any (wpAny_bind (wpAny_holding (wpAny_mono hr (fun _ s'' hr' => ?_) fun _ _ h' => h')))
    obtain ⟨m, hn, hr'⟩ := hr'
    exact wpAny_bind (wpAny_comp_letGo (cenv := { cenv with scope := relabel scope env }) hkind _ s'' m hv' hn fun h' m' _ hs' => wpAny_pure (hr' h' hs'))
  | error x =>
    obtain ⟨m, hn, hr⟩ := hr
    exact wpN_any (wpAny_bind (wpAny_holding (wpAny_comp_letGo (cenv := { cenv with scope := relabel scope env }) hkind _ s' m hv hn fun h' m' _ hs' => wpAny_mono (hr h' hs' _ rfl) (fun _ _ f => f.elim) fun _ _ y => y)))
theorem execN_AssignComp {elt iter : Expr} {x y : Str} {px py : Pos} {scope : Scope} {cl : List (Str × Addr)} {pos spos : Pos} {Q : Flow → Shared → Prop}
    (hsw : swapsWith (.ListComp elt [⟨.Name x px, iter, [], 0⟩] scope pos) (some (.Name y py)) spos.line env = pure true)
    (hclos : closureFor scope env = pure cl) (hkind : scope.kind = .function)
    (hnames : ∀ z ∈ scope.names, z.2 = .local → scope.names.lookup z.1 = some .local)
    (h : wpAny (model prog w) A (eval iter env) (fun xv s₁ => wpAny (model prog w) A (pyIter xv) (fun it s₂ => wpAny (model prog w) A (newList []) (fun acc s₃ =>
      wpAny (model prog w) A (newFunctionEnv scope env.globals cl [] env.qual none .none (some env)) (fun cenv s₄ =>
        codeN (model prog w) A (.compStart (.ListComp elt [⟨.Name x px, iter, [], 0⟩] scope pos) 0 it acc { cenv with scope := relabel scope env }) (compPost (model prog w) A E (some (assign (.Name y py) env)) (fun _ s' => Q .next s') acc cenv.locals) s₄) E s₃) E s₂) E s₁) E s)
    (hs : ∀ x, foldedSetIterable iter env x = pure x := by intro _; rfl) :
    wpN (model prog w) A (exec (.Assign [.Name y py] (.ListComp elt [⟨.Name x px, iter, [], 0⟩] scope pos) spos) env) Q E s := by
  rw [exec_Assign_Name_used _ _ _ _ hsw]
  refine wpN_bind (wpN_any (wpAny_standAt ?_))
  refine wpN_bind ?_
  show wpN _ A (do let _ ← comprehension (.ListComp elt [⟨.Name x px, iter, [], 0⟩] scope pos) scope env _ (newList []) false (eval iter env) (some (assign (.Name y py) env))) _ _ s
  refine wpN_bind (wpN_mono (comprehensionN (u := assign (.Name y py) env) (Q := fun _ s' => Q .next s') rfl hs hclos hkind hnames h) (fun _ s' hq => wpN_pure (wpN_pure hq)) fun _ _ e => e)
end
end
-- U30
section
theorem fv_cells {h₀ h : Heap} {L : Addr} {m : Str → Option Value} {P : Addr → Prop} (Fh : Fr h₀ L h m) {vs : List Value} {F : Forest} (x : FV (InP P h) vs F) :
    ∃ cells, News h₀ L h cells ∧ (∀ q ∈ cells, P q.1 ∧ ∃ acc c, q.2 = lsO acc c) ∧ FV (fun a o => h₀.get? a = some o ∨ (a, o) ∈ cells) vs F := by
  induction x with
  | nil => exact ⟨[], News.nil, fun q hq => (nomatch hq), .nil⟩
  | @cons a c wv t w kv vs kids rest h1 h2 _ _ ih1 ih2 =>
    obtain ⟨c1, n1, p1, f1⟩ := ih1
    obtain ⟨c2, n2, p2, f2⟩ := ih2
    cases e : h₀.get? a with
    | some o =>
      have := Fh.keep _ _ e
      rw [h1.1] at this
      cases this
      refine ⟨c1 ++ c2, ?_, ?_, .cons (.inl e) h2 (f1.mono ?_) (f2.mono ?_)⟩
      · intro q hq; rcases List.mem_append.mp hq with hq | hq; exact n1 q hq; exact n2 q hq
      · intro q hq; rcases List.mem_append.mp hq with hq | hq; exact p1 q hq; exact p2 q hq
      · intro a o h; exact h.imp id fun h => List.mem_append_left _ h
      · intro a o h; exact h.imp id fun h => List.mem_append_right _ h
    | none =>
      have hL : a ≠ L := by
        rintro rfl
        obtain ⟨o, es, ep, ho, hd, _⟩ := Fh.ns
        rw [h1.1] at ho
        cases ho
        cases hd
      refine ⟨(a, lsO (.str wv t :: kv).toArray c) :: (c1 ++ c2), ?_, ?_, .cons (.inr (.head _)) h2 (f1.mono ?_) (f2.mono ?_)⟩
      · intro q hq
        rcases List.mem_cons.mp hq with rfl | hq
        · exact ⟨h1.1, hL, e⟩
        · rcases List.mem_append.mp hq with hq | hq; exact n1 q hq; exact n2 q hq
      · intro q hq
        rcases List.mem_cons.mp hq with rfl | hq
        · exact ⟨h1.2, _, _, rfl⟩
        · rcases List.mem_append.mp hq with hq | hq; exact p1 q hq; exact p2 q hq
      · intro a o h; exact h.imp id fun h => .tail _ (List.mem_append_left _ h)
      · intro a o h; exact h.imp id fun h => .tail _ (List.mem_append_right _ h)
theorem ov_cells {h₀ h : Heap} {L : Addr} {m : Str → Option Value} {P : Addr → Prop} (Fh : Fr h₀ L h m) {v : Value} {F : Option Forest} (x : OV (InP P h) v F) :
    ∃ cells, News h₀ L h cells ∧ (∀ q ∈ cells, P q.1 ∧ ∃ acc c, q.2 = lsO acc c) ∧ OV (fun a o => h₀.get? a = some o ∨ (a, o) ∈ cells) v F := by
  cases x with
  | none => exact ⟨[], News.nil, fun q hq => (nomatch hq), .none⟩
  | @some a c vs F h1 h2 =>
    obtain ⟨c1, n1, p1, f1⟩ := fv_cells Fh h2
    cases e : h₀.get? a with
    | some o =>
      have := Fh.keep _ _ e
      rw [h1.1] at this
      cases this
      exact ⟨c1, n1, p1, .some (.inl e) f1⟩
    | none =>
      have hL : a ≠ L := by
        rintro rfl
        obtain ⟨o, es, ep, ho, hd, _⟩ := Fh.ns
        rw [h1.1] at ho
        cases ho
        cases hd
      refine ⟨(a, lsO vs.toArray c) :: c1, ?_, ?_, .some (.inr (.head _)) (f1.mono ?_)⟩
      · intro q hq
        rcases List.mem_cons.mp hq with rfl | hq
        · exact ⟨h1.1, hL, e⟩
        · exact n1 q hq
      · intro q hq
        rcases List.mem_cons.mp hq with rfl | hq
        · exact ⟨h1.2, _, _, rfl⟩
        · exact p1 q hq
      · intro a o h; exact h.imp id fun h => .tail _ h
end
-- U33
section
theorem execs_one {M : Model} {A : Around} {E : Value → Shared → Prop} {s : Shared} {env : Env} {st : Stmt} {Q : Flow → Shared → Prop} (h : wpAny M A (exec st env) Q E s) : wpAny M A (execs [st] env) Q E s :=
  wpAny_execs_cons (wpAny_mono h (fun f s' hf => by cases f <;> first | exact hf | exact wpAny_pure hf) fun _ _ x => x)
end
-- U34
section
theorem rm0 {a n l k : Nat} (h : a + n < l) (b : Nat.ble k n = true) : a + k < l := by
  have := Nat.le_of_ble_eq_true b; omega
theorem rm1 {a n l c k : Nat} (h : a + n < l) (b : Nat.ble (c + k) n = true) : a + c + k < l := by
  have := Nat.le_of_ble_eq_true b; omega
theorem rm2 {a n l c d k : Nat} (h : a + n < l) (b : Nat.ble (c + d + k) n = true) : a + c + d + k < l := by
  have := Nat.le_of_ble_eq_true b; omega
theorem rm3 {a n l c d e k : Nat} (h : a + n < l) (b : Nat.ble (c + d + e + k) n = true) : a + c + d + e + k < l := by
  have := Nat.le_of_ble_eq_true b; omega
theorem rm4 {a n l c d e f k : Nat} (h : a + n < l) (b : Nat.ble (c + d + e + f + k) n = true) : a + c + d + e + f + k < l := by
  have := Nat.le_of_ble_eq_true b; omega
theorem rmz {a n l : Nat} (h : a + n < l) : a < l := by omega
end
-- TT1
section
theorem caller_noDec : NoDec ⟨.builtin "claim.caller" {}, none, none, [], none⟩ := ⟨by decide, fun _ hc => nomatch hc⟩
abbrev EndN (c : ClaimW) (kept : Heap → Prop) (s : Shared) (args : List WData) (vs : List Value) (s₁ : Shared) (r : Result) (s' : Shared) : Prop := c.Ends s args vs s₁ r s' ∧ s'.os = s.os ∧ kept s'.heap
theorem callFrom_N {c : ClaimW} {tree : List Value → Sem Fin} {w : World} {s : Shared} {free : Addr → Prop} {gens : Prop} {kept : Heap → Prop} (hz : s.asleep) (hgens : s.gens = #[])
    (spec : ∀ args, c.pre args = true → WData.layableAll args = true → ∀ ord : List DictEntry → List DictEntry, (∀ l, (ord l).Perm l) →
      ∃ vs s₁, layAllW c.records (classAt s.heap) w.params ord args s = some (vs, s₁) ∧
        wpN (model c.prog w) callerA (tree vs) (fun fin s' => ∃ f, fin = .done f ∧ EndN c kept s args vs s₁ (.ok f) s' ∧ AllBare s'.gens) (fun e s' => EndN c kept s args vs s₁ (.error e) s' ∧ AllBare s'.gens) s₁) :
    c.CallFrom (fun vs => ⟨tree vs, .builtin "claim.caller" {}, default, []⟩) w free gens kept s := by
  intro args hpre hlay ord hord
  obtain ⟨vs, s₁, hl, hN⟩ := spec args hpre hlay ord hord
  obtain ⟨hg₁, _, _, hlife₁⟩ := layAllW_rest _ _ _ hl
  have hwp := hN _ default caller_in caller_noDec
  obtain ⟨n, r, s₂, s₃, hsched, hrun, hfo, hR⟩ := wp_halts_full (M := model c.prog w) (R := EndN c kept s args vs s₁) (Shared.asleep_of_life hlife₁ hz)
    (Sem.wp_mono _ _ _ (fun fin _ s' (x : ∃ f, fin = .done f ∧ EndN c kept s args vs s₁ (.ok f) s' ∧ AllBare s'.gens) => by
      obtain ⟨f, rfl, h1, h2⟩ := x
      exact ⟨h1, leftWithCleanup_false_of_bare h2⟩) (fun _ _ _ x => ⟨x.1, leftWithCleanup_false_of_bare x.2⟩) _ _ hwp)
  obtain ⟨hE, hos, hk⟩ := hR
  obtain ⟨eh, _, _, eo, _⟩ := Shared.forget_eq hfo
  have hE := hE.congr eh
  rw [← eh] at hk
  rw [← eo] at hos
  refine ⟨vs, s₁, hl, n, _, s₃, hsched, ?_, (fun _ i x hx => by rw [hgens] at hx; simp at hx), hk, by rw [(runN_life _ _ _ hrun).trans hlife₁], Shared.rest_eq hos⟩
  rcases hE with ⟨v, rfl, d1, d2, d3, d4, d5⟩ | ⟨e, ob, cls, rfl, d1, d2, d3, d4, d5⟩
  · exact .inl ⟨v, rfl, d1, d2, d3, fun b o y _ => d4 b o y, d5⟩
  · exact .inr ⟨e, ob, cls, rfl, d1, d2, d3, d4, fun b o y _ => d5 b o y⟩
abbrev WalkH (q : Program) (loose : List Str) (XP : (Str → Option Value) → Heap → Prop) (YP : World → Heap → Prop) (r : RowW) : Prop :=
  ∀ (w : World) (s₀ s₁ : Shared) (mg mb : Str → Option Value), Ground q loose r.records XP w s₀ mg mb s₁.heap → YP w s₁.heap → s₁.gens = #[] → ∀ (args : List WData) (vs : List Value) (as : List Addr), r.claim.pre args = true → WData.layableAll args = true →
    ReadsAllW r.records (classAt s₀.heap) s₁.heap vs args as → WellAll w.params s₁.heap vs args → (∀ a ∈ as, (a == sysModules) = false) → ∃ f, mg r.name = some f ∧
      wpN (model r.prog w) callerA (PySem.call f vs) (fun v s' => GoodWG r.claim (classAt s₀.heap) (ExcName.means s₀.heap) args s₁ (.ok (.ret v)) s') (fun e s' => GoodWG r.claim (classAt s₀.heap) (ExcName.means s₀.heap) args s₁ (.error e) s') s₁
theorem holds_N {r : OpenRow} {q : Program} {loose : List Str} {Xt : Shared → Bool} {XP : (Str → Option Value) → Heap → Prop} {α : Type} {Yf : Shared → α} {Ya : World → α} {YP : World → Heap → Prop} {d : DefRec} {kwd : List (Str × Expr)} {N : Nat}
    (left : LeftO r.prog q loose Xt Yf Ya N) (hY : ∀ w s, Yf s = Ya w → YP w s.heap) (hYk : ∀ w h h', YP w h → (∀ b o, h.get? b = some o → h'.get? b = some o) → YP w h')
    (hX : ∀ s, Xt s = true → XP (s.heap.nsMap mainGlobals) s.heap) (hXk : ∀ mg h h', XP mg h → (∀ b o, h.get? b = some o → h'.get? b = some o) → XP mg h')
    (hdef : defOf q r.name = some (d, kwd)) (hp : r.prog.theDef r.name = some (d.params, d.body, d.scope)) (hk : kwWritten? d.params.kwonlyargs d.params.kw_defaults = some kwd) (hRf : ∀ s, Xt s = true → RecFacts r.records s.heap) (hwr : (!r.writes || r.records.isEmpty) = true)
    (k1 : r.wellSaid = true) (ok : (chainsOk q && opensWell r.prog && (frees r.toRowW && r.within.isEmpty)) = true) (hb : r.prog.bare) (hw : r.toRowW.promised)
    (call : WalkH q loose XP YP r.toRowW) : r.Holds := by
  simp only [Bool.and_eq_true] at ok
  obtain ⟨⟨hch, hop⟩, hfr, hwt⟩ := ok
  obtain ⟨hsame, hu, ha, hap, hm⟩ := frees_parts hfr
  have hB := left.behind (XP := fun mg h => XP mg h ∧ RecFacts r.records h) (fun s hs => ⟨hX s hs, hRf s hs⟩) hch
  refine ⟨k1, hw, ⟨hb, hop, by show r.makers.map _ = []; rw [hm]; rfl⟩, hw.witness, fun w => ⟨(hB w).1, fun s' hs' => ?_⟩⟩
  obtain ⟨s₀, hf, hg0, s, hT, hz, hgens, hg, G0, y⟩ := (hB w).2 s' hs'
  have G1 : Ground q loose [] XP w s (s.heap.nsMap mainGlobals) (s.heap.nsMap builtinsNs) s.heap := ⟨G0.T, G0.B, G0.D, G0.TE, G0.TD, G0.W, G0.X.1, G0.cls, G0.has, G0.apart, G0.once, G0.K⟩
  have RF := G0.X.2
  refine ⟨s₀, hf, hg0, s, hT, fun n hn => ?_, RF.1, RF.2.1, ?_⟩
  · obtain rfl : n = r.name := by split at hn <;> simp_all
    exact pinned_of_view hg G1 hdef hp hk
  have hgens : s.gens = #[] := Array.eq_empty_of_size_eq_zero (beq_iff_eq.mp hgens)
  have G2 : Ground q loose r.records XP w s _ _ s.heap := RF.ground G1
  refine callFrom_N (c := r.toRowW.claim) hz hgens fun args hpre hlay ord hord => ?_
  obtain ⟨⟨vs, s₁⟩, hl⟩ := Option.isSome_iff_exists.mp (layAllW_isSome (P := w.params) (ord := ord) G2.has args r.args s (pre_splitW hpre).1)
  have keeps := layAllW_keeps _ _ _ hl
  have hal := layAllW_rest _ _ _ hl
  obtain ⟨as, hrd, hin, hold⟩ := reads_layAllW hord _ _ _ hl hlay s₁.heap (fun _ _ e => e)
  have L : Laid r.records w s s₁ args vs as := ⟨⟨ord, hord, hl⟩, hrd, hin, hold, keeps, hal.1.trans hgens, hal.2.2.1⟩
  have G3 := G2.keeps hXk keeps
  obtain ⟨f, hf, h⟩ := call w s s₁ _ _ G3 (hYk _ _ _ (hY w s y) keeps) (hal.1.trans hgens) args vs as hpre hlay hrd L.well (L.low G2.low)
  have fin : ∀ res s', GoodWG r.toRowW.claim (classAt s.heap) (ExcName.means s.heap) args s₁ res s' → r.toRowW.claim.Ends s args vs s₁ res s' ∧ s'.os = s.os ∧ AllBare s'.gens := fun res s' g =>
    g.laid (c := r.toRowW.claim) hsame (List.isEmpty_iff.mp hwt) (ident_freeW hu ha hap) L
  refine ⟨vs, s₁, hl, ?_⟩
  refine wpN_bind (wpN_any (wpAny_nsGet G3.T.g ?_))
  rw [hf]
  exact wpN_bind (wpN_mono h (fun v s' g => wpN_pure ⟨_, rfl, ⟨(fin _ _ g).1, (fin _ _ g).2.1, fun q => ⟨namesKept_of hT hg _ keeps g.2.1.old, noTable hwr q⟩⟩, (fin _ _ g).2.2⟩) fun e s' g =>
    ⟨⟨(fin _ _ g).1, (fin _ _ g).2.1, fun q => ⟨namesKept_of hT hg _ keeps g.2.1.old, noTable hwr q⟩⟩, (fin _ _ g).2.2⟩)
end
-- W header
local macro_rules | `(tactic| walk_at "mine rm") => `(tactic| first | exact rm0 (by assumption) rfl | exact rm1 (by assumption) rfl | exact rm2 (by assumption) rfl | exact rmz (by assumption) | omega)
local macro_rules | `(tactic| ktr_room) => `(tactic| ((try dsimp only [depth_under_make, depth_under_kw, depth_in1, depth_deeper, depth_caller, Ar]); walk_at "mine rm"))
local macro_rules | `(tactic| ktr_units) => `(tactic| ((try dsimp only [units_in1, units_deeper, Around.mark_units, units_caller, Ar]); walk_at "mine rm"))
local macro_rules | `(tactic| k_room) => `(tactic| ktr_room)
local macro_rules | `(tactic| k_enter) => `(tactic| (refine' code_def ?k1 ?k2 ?k3 ?k4 ?k5 ?kA ?kF ?kK ?k6 ?k7 ?k8 ?k9 ?kB ?_ ?c2 ?c3 ?c4 ?c5; (case kA => exact rfl); (case kF | kK => first | exact rfl | assumption); (case k1 | k2 | k3 | k4 | k5 => k_asm); (case k6 | k7 => k_is); (case k8 => k_room); (case k9 => first | exact BindsTo.of_eq rfl | exact binds_K (by k_in) rfl (by k_is) rfl rfl rfl | fail "k_enter: no rule for these arguments"); (case c5 => decide); (case kB => exact locs rfl); (case c2 | c3 | c4 => exact rfl); k_whole; intro g' L' h' FG' F' N' B' X' T'; (try dsimp only); (try k_lift B'); (try k_fold)))
local macro_rules | `(tactic| k_all) => `(tactic| first | assumption | exact List.forall_mem_nil _ | (refine' List.forall_mem_cons.mpr ⟨?a, ?b⟩; (case a => k_ne); (case b => k_all)))
local macro_rules | `(tactic| walk_at "execs cons") => `(tactic| (k_here; first | k_gentoks | ((with_reducible refine execs_one ?_); (try dsimp only))))
set_option hygiene false
local macro_rules | `(tactic| walk_at "mine std") => `(tactic| ((case kF | kK => first | exact rfl | assumption); (case k1 | k2 | k3 | k4 | k5 => k_asm); (case kd => ktr_room); (case ku => ktr_units)))
set_option hygiene true
-- W1
section
abbrev Ar (dp un : Nat) (gd : Option (List Code)) (env : Env) (outer : List Env) : Around := { handled := none, depth := dp, frames := some (env :: outer), guards := gd, units := un }
section
variable {w : World} {p : Program} {lo : List Str} {mean : ExcName → Option Value} {mg mb : Str → Option Value} {dp un : Nat} {gd : Option (List Code)} {A₀ : Around} {env : Env} {outer : List Env} {base h₀ : Heap} {L : Addr} {m : Str → Option Value} {s : Shared} {Q E : Value → Shared → Prop} {news : List (Addr × Obj)}
theorem index_spec {i : Int} {t tx : Tok} {x : Str} (B : Below A₀ base outer h₀) (F : Fr h₀ L s.heap m) (X : (K w.params).In h₀) (N : News h₀ L s.heap (news)) (T : Top p lo mean mg mb h₀) (hf : env.frame = some L) (hke : env.scope.kind = .function)
    (hd : dp + 2 < recursionLimit) (hu : un + 20 < cLine) (h1 : -1099511627776 ≤ i) (h2 : i ≤ 1099511627776)
    (hret : ∀ (t : Tok) (h' : Heap) (tk' : Nat), Fr h₀ L h' m → News h₀ L h' news → Q (.int i t) { s with heap := h', toks := tk' }) :
    wpAny (model PySem.Challenge.rw_op0211_01.row.toRowW.prog w) (Ar dp un gd env outer) (call (.ref 72) [.int i t, .str x tx]) Q E s := by
  revert X; k_fill; intro X
  k_steps
  all_goals cb_end hret
end
end
-- W2
section
section
variable {w : World} {p : Program} {lo : List Str} {mean : ExcName → Option Value} {mg mb : Str → Option Value} {dp un : Nat} {gd : Option (List Code)} {A₀ : Around} {env : Env} {outer : List Env} {base h₀ : Heap} {L : Addr} {m : Str → Option Value} {s : Shared} {Q E : Value → Shared → Prop} {news : List (Addr × Obj)}
local macro_rules | `(tactic| walk_at "call ref") => `(tactic| (k_here; (with_reducible show wpAny _ _ (call (Value.ref 72) _) _ _ _); k_dflt (refine' index_spec ?k1 ?k2 ?k3 ?k4 ?k5 ?kF ?kK ?kd ?ku ?e0 ?e1 ?hr; walk_at "mine std"; (case e0 | e1 => omega); intro t' h' tk' F' N')))
structure ST where
  (a b c d e : Tok)
def sioEs (w : World) (T : ST) (b : Str) (pos : Int) (t : Tok) : List DictEntry :=
  [⟨PyData.keyHash w.params (Str.ofString "_StringIO__newline"), .str (Str.ofString "_StringIO__newline") T.a, .str (Str.ofString "\n") T.d⟩, ⟨PyData.keyHash w.params (Str.ofString "_StringIO__buf"), .str (Str.ofString "_StringIO__buf") T.b, .str b T.e⟩, ⟨PyData.keyHash w.params (Str.ofString "_StringIO__pos"), .str (Str.ofString "_StringIO__pos") T.c, .int pos t⟩]
theorem read_spec {c : Nat} {io dio : Addr} {b : Str} {pos : Int} {TT : ST} {t t1 : Tok} {rest : List (Addr × Obj)} (B : Below A₀ base outer h₀) (F : Fr h₀ L s.heap m) (X : (K w.params).In h₀) (N : News h₀ L s.heap ((io, instObj 606 dio) :: (dio, dictOf (sioEs w TT b pos t) 3) :: rest)) (T : Top p lo mean mg mb h₀) (hf : env.frame = some L) (hke : env.scope.kind = .function)
    (hd : dp + 4 < recursionLimit) (hu : un + 50 < cLine) (hb : b.length ≤ 1000) (hp : 0 ≤ pos) (hp2 : b.cps[pos.toNat]? = some c) (hne : @LT.lt Nat _ dio io) (hr : ∀ q ∈ rest, q.1 ≠ dio)
    (hret : ∀ (tx t' : Tok) (h' : Heap) (tk' : Nat), Fr h₀ L h' m → News h₀ L h' ((io, instObj 606 dio) :: (dio, dictOf (sioEs w TT b (pos + 1) t') 3) :: rest) → Q (.str (chS c) tx) { s with heap := h', toks := tk' }) :
    wpAny (model PySem.Challenge.rw_op0211_01.row.toRowW.prog w) (Ar dp un gd env outer) (call (.ref 552) [.ref io, .int 1 t1]) Q E s := by
  have hp3 : pos < (b.length : Int) := by
    have : pos.toNat < b.cps.size := by
      by_cases h : pos.toNat < b.cps.size
      · exact h
      · rw [Array.getElem?_eq_none (by omega)] at hp2; cases hp2
    have e : b.length = b.cps.size := rfl
    omega
  have e1 := slice1 hp hp2
  revert X; k_fill; intro X
  k_steps
  · rw [e1]
    refine' hret _ _ _ _ ?c ?d; (case d => k_asm); (case c => k_asm)
  · have e2 : (b.length : Int) = pos + 1 := by omega
    simp only [e2] at *
    rw [e1]
    refine' hret _ _ _ _ ?c ?d; (case d => k_asm); (case c => k_asm)
theorem read0_spec {io dio : Addr} {b : Str} {pos : Int} {TT : ST} {t t1 : Tok} {rest : List (Addr × Obj)} (B : Below A₀ base outer h₀) (F : Fr h₀ L s.heap m) (X : (K w.params).In h₀) (N : News h₀ L s.heap ((io, instObj 606 dio) :: (dio, dictOf (sioEs w TT b pos t) 3) :: rest)) (T : Top p lo mean mg mb h₀) (hf : env.frame = some L) (hke : env.scope.kind = .function)
    (hd : dp + 4 < recursionLimit) (hu : un + 50 < cLine) (hb : b.length ≤ 1000) (hp : 0 ≤ pos) (hp2 : (b.length : Int) ≤ pos) (hne : @LT.lt Nat _ dio io) (hr : ∀ q ∈ rest, q.1 ≠ dio)
    (hret : ∀ (tx : Tok) (h' : Heap) (tk' : Nat), Fr h₀ L h' m → News h₀ L h' ((io, instObj 606 dio) :: (dio, dictOf (sioEs w TT b pos t) 3) :: rest) → Q (.str (Str.ofString "") tx) { s with heap := h', toks := tk' }) :
    wpAny (model PySem.Challenge.rw_op0211_01.row.toRowW.prog w) (Ar dp un gd env outer) (call (.ref 552) [.ref io, .int 1 t1]) Q E s := by
  revert X; k_fill; intro X
  k_steps
  all_goals (refine' hret _ _ _ ?c ?d; (case d => k_asm); (case c => k_asm))
end
end
-- D3
section
noncomputable def rtScope : Scope := match stC 25 6 with | .FunctionDef _ _ _ _ _ _ sc _ _ _ => sc | _ => default
noncomputable def rtBody : List Stmt := match stC 25 6 with | .FunctionDef _ _ b _ _ _ _ _ _ _ => b | _ => []
noncomputable def rtLoop : List Stmt := match rtBody with | [_, _, .While _ b _ _, _, _, _, _, _] => b | _ => []
noncomputable def rtPre : List Stmt := match rtLoop with | [a, b, c, _] => [a, b, c] | _ => []
noncomputable def rtTail : List Stmt := match rtLoop with | [_, _, _, d] => [d] | _ => []
structure LT where
  (k0 k1 k2 k3 k4 k5 k6 k7 k8 k9 k10 k11 k12 k13 k14 k15 k16 k17 k18 v4 v5 v6 v8 v9 v10 v14 v18 : Tok)
def lexEs (w : World) (T : LT) (WC : Str) (io pb fs : Addr) (st ln tk : Value) : List DictEntry :=
  [⟨PyData.keyHash w.params (Str.ofString "instream"), .str (Str.ofString "instream") T.k0, .ref io⟩,
   ⟨PyData.keyHash w.params (Str.ofString "infile"), .str (Str.ofString "infile") T.k1, .none⟩,
   ⟨PyData.keyHash w.params (Str.ofString "posix"), .str (Str.ofString "posix") T.k2, .bool true⟩,
   ⟨PyData.keyHash w.params (Str.ofString "eof"), .str (Str.ofString "eof") T.k3, .none⟩,
   ⟨PyData.keyHash w.params (Str.ofString "commenters"), .str (Str.ofString "commenters") T.k4, .str (Str.ofString "") T.v4⟩,
   ⟨PyData.keyHash w.params (Str.ofString "wordchars"), .str (Str.ofString "wordchars") T.k5, .str WC T.v5⟩,
   ⟨PyData.keyHash w.params (Str.ofString "whitespace"), .str (Str.ofString "whitespace") T.k6, .str (Str.ofString " \t\r\n") T.v6⟩,
   ⟨PyData.keyHash w.params (Str.ofString "whitespace_split"), .str (Str.ofString "whitespace_split") T.k7, .bool true⟩,
   ⟨PyData.keyHash w.params (Str.ofString "quotes"), .str (Str.ofString "quotes") T.k8, .str (Str.ofString "'\"") T.v8⟩,
   ⟨PyData.keyHash w.params (Str.ofString "escape"), .str (Str.ofString "escape") T.k9, .str (Str.ofString "\\") T.v9⟩,
   ⟨PyData.keyHash w.params (Str.ofString "escapedquotes"), .str (Str.ofString "escapedquotes") T.k10, .str (Str.ofString "\"") T.v10⟩,
   ⟨PyData.keyHash w.params (Str.ofString "state"), .str (Str.ofString "state") T.k11, st⟩,
   ⟨PyData.keyHash w.params (Str.ofString "pushback"), .str (Str.ofString "pushback") T.k12, .ref pb⟩,
   ⟨PyData.keyHash w.params (Str.ofString "lineno"), .str (Str.ofString "lineno") T.k13, ln⟩,
   ⟨PyData.keyHash w.params (Str.ofString "debug"), .str (Str.ofString "debug") T.k14, .int 0 T.v14⟩,
   ⟨PyData.keyHash w.params (Str.ofString "token"), .str (Str.ofString "token") T.k15, tk⟩,
   ⟨PyData.keyHash w.params (Str.ofString "filestack"), .str (Str.ofString "filestack") T.k16, .ref fs⟩,
   ⟨PyData.keyHash w.params (Str.ofString "source"), .str (Str.ofString "source") T.k17, .none⟩,
   ⟨PyData.keyHash w.params (Str.ofString "_punctuation_chars"), .str (Str.ofString "_punctuation_chars") T.k18, .str (Str.ofString "") T.v18⟩]
abbrev mRT (lex : Addr) (q : Bool) (es nc : Option Value) : Str → Option Value := fun y => if y = Str.ofString "nextchar" then nc else if y = Str.ofString "quoted" then some (.bool q) else if y = Str.ofString "escapedstate" then es else if y = Str.ofString "self" then some (.ref lex) else none
theorem mRT_next {lex : Addr} {q : Bool} {es nc : Option Value} {v : Value} : (fun y => if y = Str.ofString "nextchar" then some v else mRT lex q es nc y) = mRT lex q es (some v) := by
  funext y
  unfold mRT
  by_cases h : y = Str.ofString "nextchar" <;> simp [h]
theorem mRT_quoted {lex : Addr} {q q' : Bool} {es nc : Option Value} : (fun y => if y = Str.ofString "quoted" then some (.bool q') else mRT lex q es nc y) = mRT lex q' es nc := by
  funext y
  unfold mRT
  have e : ¬ (Str.ofString "quoted" = Str.ofString "nextchar") := by decide +kernel
  by_cases h : y = Str.ofString "quoted"
  · subst h; simp [e]
  · simp [h]
noncomputable abbrev rtEnv (L : Addr) : Env := envOf (Str.ofString "shlex.read_token") rtScope L 709 (.ref 708)
abbrev rtNews (w : World) (TT : ST) (TL : LT) (b WC : Str) (io dio lex dlex pb fs : Addr) (pos : Int) (t : Tok) (st ln tk : Value) (rest : List (Addr × Obj)) : List (Addr × Obj) :=
  (io, instObj 606 dio) :: (dio, dictOf (sioEs w TT b pos t) 3) :: (lex, instObj 741 dlex) :: (dlex, dictOf (lexEs w TL WC io pb fs st ln tk) 19) :: rest
end
-- W3
section
section
variable {w : World} {p : Program} {lo : List Str} {mean : ExcName → Option Value} {mg mb : Str → Option Value} {dp un : Nat} {gd : Option (List Code)} {A₀ : Around} {env : Env} {outer : List Env} {base h₀ : Heap} {L : Addr} {m : Str → Option Value} {s : Shared} {Q E : Value → Shared → Prop} {news : List (Addr × Obj)}
local macro_rules | `(tactic| walk_at "call ref") => `(tactic| (k_here; (with_reducible show wpAny _ _ (call (Value.ref 72) _) _ _ _); k_dflt (refine' index_spec ?k1 ?k2 ?k3 ?k4 ?k5 ?kF ?kK ?kd ?ku ?e0 ?e1 ?hr; walk_at "mine std"; (case e0 | e1 => omega); intro t' h' tk' F' N')))
local macro_rules | `(tactic| walk_at "call ref") => `(tactic| (k_here; (with_reducible show wpAny _ _ (call (Value.ref 552) _) _ _ _); k_dflt (refine' read_spec ?k1 ?k2 ?k3 ?k4 ?k5 ?kF ?kK ?kd ?ku ?e0 ?e1 ?e2 ?e3 ?e4 ?hr; walk_at "mine std"; (case e0 | e1 | e2 | e3 => assumption); (case e4 => k_all); intro tx' t' h' tk' F' N')))
section
variable {io dio lex dlex pb fs : Addr} {b WC : Str} {pos : Int} {c : Nat} {TT : ST} {TL : LT} {t ts tl tx : Tok} {ln : Int} {st : Value} {tok : Str} {rest : List (Addr × Obj)} {Qf : Flow → Shared → Prop} {q : Bool} {es nc : Option Value}
theorem pre_spec (B : Below A₀ base (env :: outer) h₀) (F : Fr h₀ L s.heap (mRT lex q es nc)) (X : (K w.params).In h₀)
    (N : News h₀ L s.heap (rtNews w TT TL b WC io dio lex dlex pb fs pos t st (.int ln tl) (.str tok tx) rest)) (T : Top p lo mean mg mb h₀)
    (hd : dp + 6 < recursionLimit) (hu : un + 60 < cLine) (hb : b.length ≤ 1000) (hp : 0 ≤ pos) (hp2 : b.cps[pos.toNat]? = some c) (hne : @LT.lt Nat _ dio io) (hne2 : @LT.lt Nat _ lex dio) (hne3 : @LT.lt Nat _ dlex lex) (hr : ∀ q ∈ rest, q.1 ≠ dio) (hr2 : ∀ q ∈ rest, q.1 ≠ dlex)
    (hret : ∀ (ln' : Int) (tl' tc t' : Tok) (h' : Heap) (tk' : Nat), Fr h₀ L h' (mRT lex q es (some (.str (chS c) tc))) → News h₀ L h' (rtNews w TT TL b WC io dio lex dlex pb fs (pos + 1) t' st (.int ln' tl') (.str tok tx) rest) → Qf .next { s with heap := h', toks := tk' }) :
    wpAny (model PySem.Challenge.rw_op0211_01.row.toRowW.prog w) ((Ar dp un gd env outer).deeper (rtEnv L)) (execs rtPre (rtEnv L)) Qf E s := by
  revert X; k_fill; intro X
  k_steps
  all_goals (refine' hret _ _ _ _ _ _ ?c ?d; (case d => k_asm); (case c => first | k_asm | (rw [← mRT_next]; k_asm)))
end
local macro_rules | `(tactic| walk_at "call ref") => `(tactic| (k_here; (with_reducible show wpAny _ _ (call (Value.ref 552) _) _ _ _); k_dflt (refine' read0_spec ?k1 ?k2 ?k3 ?k4 ?k5 ?kF ?kK ?kd ?ku ?e0 ?e1 ?e2 ?e3 ?e4 ?hr; walk_at "mine std"; (case e0 | e1 | e2 | e3 => assumption); (case e4 => k_all); intro tx' h' tk' F' N')))
section
variable {io dio lex dlex pb fs : Addr} {b WC : Str} {pos : Int} {TT : ST} {TL : LT} {t ts tl tx : Tok} {ln : Int} {st : Value} {tok : Str} {rest : List (Addr × Obj)} {Qf : Flow → Shared → Prop} {q : Bool} {es nc : Option Value}
theorem pre0_spec (B : Below A₀ base (env :: outer) h₀) (F : Fr h₀ L s.heap (mRT lex q es nc)) (X : (K w.params).In h₀)
    (N : News h₀ L s.heap (rtNews w TT TL b WC io dio lex dlex pb fs pos t st (.int ln tl) (.str tok tx) rest)) (T : Top p lo mean mg mb h₀)
    (hd : dp + 6 < recursionLimit) (hu : un + 60 < cLine) (hb : b.length ≤ 1000) (hp : 0 ≤ pos) (hp2 : (b.length : Int) ≤ pos) (hne : @LT.lt Nat _ dio io) (hne2 : @LT.lt Nat _ lex dio) (hne3 : @LT.lt Nat _ dlex lex) (hr : ∀ q ∈ rest, q.1 ≠ dio) (hr2 : ∀ q ∈ rest, q.1 ≠ dlex)
    (hret : ∀ (tc : Tok) (h' : Heap) (tk' : Nat), Fr h₀ L h' (mRT lex q es (some (.str (Str.ofString "") tc))) → News h₀ L h' (rtNews w TT TL b WC io dio lex dlex pb fs pos t st (.int ln tl) (.str tok tx) rest) → Qf .next { s with heap := h', toks := tk' }) :
    wpAny (model PySem.Challenge.rw_op0211_01.row.toRowW.prog w) ((Ar dp un gd env outer).deeper (rtEnv L)) (execs rtPre (rtEnv L)) Qf E s := by
  revert X; k_fill; intro X
  k_steps
  all_goals (refine' hret _ _ _ ?c ?d; (case d => k_asm); (case c => first | k_asm | (rw [← mRT_next]; k_asm)))
end
end
end
-- W4
section
section
variable {w : World} {p : Program} {lo : List Str} {mean : ExcName → Option Value} {mg mb : Str → Option Value} {dp un : Nat} {gd : Option (List Code)} {A₀ : Around} {env : Env} {outer : List Env} {base h₀ : Heap} {L : Addr} {m : Str → Option Value} {s : Shared} {Q E : Value → Shared → Prop} {news : List (Addr × Obj)}
local macro_rules | `(tactic| walk_at "compareOp In str str") => `(tactic| (k_here; first | (refine in_chH (by assumption) ?_) | (refine in_chH (v := true) (by decide +kernel) ?_) | (refine in_chH (v := false) (by decide +kernel) ?_) | (refine in_valH (v := true) (by decide +kernel) ?_) | (refine in_valH (v := false) (by decide +kernel) ?_)))
local macro_rules | `(tactic| walk_at "compareOp NotIn str str") => `(tactic| (k_here; first | (refine notIn_chH (by assumption) ?_) | (refine notIn_chH (v := true) (by decide +kernel) ?_) | (refine notIn_chH (v := false) (by decide +kernel) ?_) | (refine notIn_chH (v := false) (inS_nil _) ?_)))
local macro_rules | `(tactic| walk_at "compareOp Eq str str") => `(tactic| (k_here; first | (refine eq_strH (by assumption) ?_) | (refine eq_strH (v := true) (by decide +kernel) ?_) | (refine eq_strH (v := false) (by decide +kernel) ?_)))
local macro_rules | `(tactic| walk_at "compareOp In str str") => `(tactic| (k_here; refine in_chH (v := false) (inS_nil _) ?_))
local macro_rules | `(tactic| walk_at "truthy str") => `(tactic| (k_here; first | (refine truthy_chS ?_; intro _) | (refine truthy_strH (by assumption) (by omega) ?_; intro _)))
local macro_rules | `(tactic| walk_at "inplaceOp Add str str") => `(tactic| (k_here; (refine iadd_chH (by assumption) ?_); intro _ _))
section
variable {io dio lex dlex pb fs : Addr} {b WC : Str} {pos : Int} {c : Nat} {TT : ST} {TL : LT} {t ts tl tx tc : Tok} {ln : Int} {tok : Str} {rest : List (Addr × Obj)} {Qf : Flow → Shared → Prop} {q : Bool} {es : Option Value}
theorem t1_spec (B : Below A₀ base (env :: outer) h₀) (F : Fr h₀ L s.heap (mRT lex false es (some (.str (chS 32) tc)))) (X : (K w.params).In h₀)
    (N : News h₀ L s.heap (rtNews w TT TL b WC io dio lex dlex pb fs pos t (.str (Str.ofString " ") ts) (.int ln tl) (.str (Str.ofString "") tx) rest)) (T : Top p lo mean mg mb h₀)
    (hd : dp + 6 < recursionLimit) (hu : un + 60 < cLine) (hl : tok.length ≤ 1000) (hne : @LT.lt Nat _ dio io) (hne2 : @LT.lt Nat _ lex dio) (hne3 : @LT.lt Nat _ dlex lex) (hr : ∀ q ∈ rest, q.1 ≠ dio) (hr2 : ∀ q ∈ rest, q.1 ≠ dlex)
    (hret : ∀ (ts' tx' : Tok) (h' : Heap) (tk' : Nat), Fr h₀ L h' (mRT lex false es (some (.str (chS 32) tc))) → News h₀ L h' (rtNews w TT TL b WC io dio lex dlex pb fs pos t (.str (Str.ofString " ") ts) (.int ln tl) (.str (Str.ofString "") tx) rest) → Qf .cont { s with heap := h', toks := tk' }) :
    wpAny (model PySem.Challenge.rw_op0211_01.row.toRowW.prog w) ((Ar dp un gd env outer).deeper (rtEnv L)) (execs rtTail (rtEnv L)) Qf E s := by
  revert X; k_fill; intro X
  k_steps
  all_goals (refine' hret _ _ _ _ ?c ?d; (case d => first | k_asm | (refine' cb_drop (news' := _ :: _) ?n (fun p hp => List.mem_cons_of_mem _ hp); (case n => k_asm))); (case c => first | k_asm | (rw [← mRT_quoted]; k_asm)))
  all_goals exact (0 : Nat)
theorem t2_spec (B : Below A₀ base (env :: outer) h₀) (F : Fr h₀ L s.heap (mRT lex q es (some (.str (chS c) tc)))) (X : (K w.params).In h₀)
    (N : News h₀ L s.heap (rtNews w TT TL b WC io dio lex dlex pb fs pos t (.str (Str.ofString " ") ts) (.int ln tl) (.str (tok) tx) rest)) (T : Top p lo mean mg mb h₀)
    (hd : dp + 6 < recursionLimit) (hu : un + 60 < cLine) (hl : tok.length ≤ 1000) (hne : @LT.lt Nat _ dio io) (hne2 : @LT.lt Nat _ lex dio) (hne3 : @LT.lt Nat _ dlex lex) (hr : ∀ q ∈ rest, q.1 ≠ dio) (hr2 : ∀ q ∈ rest, q.1 ≠ dlex) (f0 : inS c (Str.ofString " \t\r\n") = false) (f1 : inS c (Str.ofString "\\") = false) (f2 : inS c (Str.ofString "'\"") = false)
    (hret : ∀ (ts' tx' : Tok) (h' : Heap) (tk' : Nat), Fr h₀ L h' (mRT lex q es (some (.str (chS c) tc))) → News h₀ L h' (rtNews w TT TL b WC io dio lex dlex pb fs pos t (.str (Str.ofString "a") ts') (.int ln tl) (.str (chS c) tx') rest) → Qf .next { s with heap := h', toks := tk' }) :
    wpAny (model PySem.Challenge.rw_op0211_01.row.toRowW.prog w) ((Ar dp un gd env outer).deeper (rtEnv L)) (execs rtTail (rtEnv L)) Qf E s := by
  revert X; k_fill; intro X
  k_steps
  all_goals (refine' hret _ _ _ _ ?c ?d; (case d => first | k_asm | (refine' cb_drop (news' := _ :: _) ?n (fun p hp => List.mem_cons_of_mem _ hp); (case n => k_asm))); (case c => first | k_asm | (rw [← mRT_quoted]; k_asm)))
  all_goals exact (0 : Nat)
theorem t3_spec (B : Below A₀ base (env :: outer) h₀) (F : Fr h₀ L s.heap (mRT lex q es (some (.str (chS 39) tc)))) (X : (K w.params).In h₀)
    (N : News h₀ L s.heap (rtNews w TT TL b WC io dio lex dlex pb fs pos t (.str (Str.ofString " ") ts) (.int ln tl) (.str (tok) tx) rest)) (T : Top p lo mean mg mb h₀)
    (hd : dp + 6 < recursionLimit) (hu : un + 60 < cLine) (hl : tok.length ≤ 1000) (hne : @LT.lt Nat _ dio io) (hne2 : @LT.lt Nat _ lex dio) (hne3 : @LT.lt Nat _ dlex lex) (hr : ∀ q ∈ rest, q.1 ≠ dio) (hr2 : ∀ q ∈ rest, q.1 ≠ dlex) (f0 : inS 39 WC = false)
    (hret : ∀ (ts' tx' : Tok) (h' : Heap) (tk' : Nat), Fr h₀ L h' (mRT lex q es (some (.str (chS 39) tc))) → News h₀ L h' (rtNews w TT TL b WC io dio lex dlex pb fs pos t (.str (chS 39) ts') (.int ln tl) (.str tok tx) rest) → Qf .next { s with heap := h', toks := tk' }) :
    wpAny (model PySem.Challenge.rw_op0211_01.row.toRowW.prog w) ((Ar dp un gd env outer).deeper (rtEnv L)) (execs rtTail (rtEnv L)) Qf E s := by
  revert X; k_fill; intro X
  k_steps
  all_goals (refine' hret _ _ _ _ ?c ?d; (case d => first | k_asm | (refine' cb_drop (news' := _ :: _) ?n (fun p hp => List.mem_cons_of_mem _ hp); (case n => k_asm))); (case c => first | k_asm | (rw [← mRT_quoted]; k_asm)))
  all_goals exact (0 : Nat)
theorem t4_spec (B : Below A₀ base (env :: outer) h₀) (F : Fr h₀ L s.heap (mRT lex q es (some (.str (chS c) tc)))) (X : (K w.params).In h₀)
    (N : News h₀ L s.heap (rtNews w TT TL b WC io dio lex dlex pb fs pos t (.str (chS 39) ts) (.int ln tl) (.str (tok) tx) rest)) (T : Top p lo mean mg mb h₀)
    (hd : dp + 6 < recursionLimit) (hu : un + 60 < cLine) (hl : tok.length ≤ 1000) (hne : @LT.lt Nat _ dio io) (hne2 : @LT.lt Nat _ lex dio) (hne3 : @LT.lt Nat _ dlex lex) (hr : ∀ q ∈ rest, q.1 ≠ dio) (hr2 : ∀ q ∈ rest, q.1 ≠ dlex) (f0 : (chS c == chS 39) = false)
    (hret : ∀ (ts' tx' : Tok) (h' : Heap) (tk' : Nat), Fr h₀ L h' (mRT lex true es (some (.str (chS c) tc))) → News h₀ L h' (rtNews w TT TL b WC io dio lex dlex pb fs pos t (.str (chS 39) ts) (.int ln tl) (.str (tok ++ chS c) tx') rest) → Qf .next { s with heap := h', toks := tk' }) :
    wpAny (model PySem.Challenge.rw_op0211_01.row.toRowW.prog w) ((Ar dp un gd env outer).deeper (rtEnv L)) (execs rtTail (rtEnv L)) Qf E s := by
  revert X; k_fill; intro X
  k_steps
  all_goals (refine' hret _ _ _ _ ?c ?d; (case d => first | k_asm | (refine' cb_drop (news' := _ :: _) ?n (fun p hp => List.mem_cons_of_mem _ hp); (case n => k_asm))); (case c => first | k_asm | (rw [← mRT_quoted]; k_asm)))
  all_goals exact (0 : Nat)
theorem t5_spec (B : Below A₀ base (env :: outer) h₀) (F : Fr h₀ L s.heap (mRT lex q es (some (.str (chS 39) tc)))) (X : (K w.params).In h₀)
    (N : News h₀ L s.heap (rtNews w TT TL b WC io dio lex dlex pb fs pos t (.str (chS 39) ts) (.int ln tl) (.str (tok) tx) rest)) (T : Top p lo mean mg mb h₀)
    (hd : dp + 6 < recursionLimit) (hu : un + 60 < cLine) (hl : tok.length ≤ 1000) (hne : @LT.lt Nat _ dio io) (hne2 : @LT.lt Nat _ lex dio) (hne3 : @LT.lt Nat _ dlex lex) (hr : ∀ q ∈ rest, q.1 ≠ dio) (hr2 : ∀ q ∈ rest, q.1 ≠ dlex)
    (hret : ∀ (ts' tx' : Tok) (h' : Heap) (tk' : Nat), Fr h₀ L h' (mRT lex true es (some (.str (chS 39) tc))) → News h₀ L h' (rtNews w TT TL b WC io dio lex dlex pb fs pos t (.str (Str.ofString "a") ts') (.int ln tl) (.str tok tx) rest) → Qf .next { s with heap := h', toks := tk' }) :
    wpAny (model PySem.Challenge.rw_op0211_01.row.toRowW.prog w) ((Ar dp un gd env outer).deeper (rtEnv L)) (execs rtTail (rtEnv L)) Qf E s := by
  revert X; k_fill; intro X
  k_steps
  all_goals (refine' hret _ _ _ _ ?c ?d; (case d => first | k_asm | (refine' cb_drop (news' := _ :: _) ?n (fun p hp => List.mem_cons_of_mem _ hp); (case n => k_asm))); (case c => first | k_asm | (rw [← mRT_quoted]; k_asm)))
  all_goals exact (0 : Nat)
theorem t6_spec (B : Below A₀ base (env :: outer) h₀) (F : Fr h₀ L s.heap (mRT lex q es (some (.str (chS 34) tc)))) (X : (K w.params).In h₀)
    (N : News h₀ L s.heap (rtNews w TT TL b WC io dio lex dlex pb fs pos t (.str (Str.ofString "a") ts) (.int ln tl) (.str (tok) tx) rest)) (T : Top p lo mean mg mb h₀)
    (hd : dp + 6 < recursionLimit) (hu : un + 60 < cLine) (hl : tok.length ≤ 1000) (hne : @LT.lt Nat _ dio io) (hne2 : @LT.lt Nat _ lex dio) (hne3 : @LT.lt Nat _ dlex lex) (hr : ∀ q ∈ rest, q.1 ≠ dio) (hr2 : ∀ q ∈ rest, q.1 ≠ dlex)
    (hret : ∀ (ts' tx' : Tok) (h' : Heap) (tk' : Nat), Fr h₀ L h' (mRT lex q es (some (.str (chS 34) tc))) → News h₀ L h' (rtNews w TT TL b WC io dio lex dlex pb fs pos t (.str (chS 34) ts') (.int ln tl) (.str tok tx) rest) → Qf .next { s with heap := h', toks := tk' }) :
    wpAny (model PySem.Challenge.rw_op0211_01.row.toRowW.prog w) ((Ar dp un gd env outer).deeper (rtEnv L)) (execs rtTail (rtEnv L)) Qf E s := by
  revert X; k_fill; intro X
  k_steps
  all_goals (refine' hret _ _ _ _ ?c ?d; (case d => first | k_asm | (refine' cb_drop (news' := _ :: _) ?n (fun p hp => List.mem_cons_of_mem _ hp); (case n => k_asm))); (case c => first | k_asm | (rw [← mRT_quoted]; k_asm)))
  all_goals exact (0 : Nat)
theorem t7_spec (B : Below A₀ base (env :: outer) h₀) (F : Fr h₀ L s.heap (mRT lex q es (some (.str (chS 39) tc)))) (X : (K w.params).In h₀)
    (N : News h₀ L s.heap (rtNews w TT TL b WC io dio lex dlex pb fs pos t (.str (chS 34) ts) (.int ln tl) (.str (tok) tx) rest)) (T : Top p lo mean mg mb h₀)
    (hd : dp + 6 < recursionLimit) (hu : un + 60 < cLine) (hl : tok.length ≤ 1000) (hne : @LT.lt Nat _ dio io) (hne2 : @LT.lt Nat _ lex dio) (hne3 : @LT.lt Nat _ dlex lex) (hr : ∀ q ∈ rest, q.1 ≠ dio) (hr2 : ∀ q ∈ rest, q.1 ≠ dlex)
    (hret : ∀ (ts' tx' : Tok) (h' : Heap) (tk' : Nat), Fr h₀ L h' (mRT lex true es (some (.str (chS 39) tc))) → News h₀ L h' (rtNews w TT TL b WC io dio lex dlex pb fs pos t (.str (chS 34) ts) (.int ln tl) (.str (tok ++ chS 39) tx') rest) → Qf .next { s with heap := h', toks := tk' }) :
    wpAny (model PySem.Challenge.rw_op0211_01.row.toRowW.prog w) ((Ar dp un gd env outer).deeper (rtEnv L)) (execs rtTail (rtEnv L)) Qf E s := by
  revert X; k_fill; intro X
  k_steps
  all_goals (refine' hret _ _ _ _ ?c ?d; (case d => first | k_asm | (refine' cb_drop (news' := _ :: _) ?n (fun p hp => List.mem_cons_of_mem _ hp); (case n => k_asm))); (case c => first | k_asm | (rw [← mRT_quoted]; k_asm)))
  all_goals exact (0 : Nat)
theorem t8_spec (B : Below A₀ base (env :: outer) h₀) (F : Fr h₀ L s.heap (mRT lex q es (some (.str (chS 34) tc)))) (X : (K w.params).In h₀)
    (N : News h₀ L s.heap (rtNews w TT TL b WC io dio lex dlex pb fs pos t (.str (chS 34) ts) (.int ln tl) (.str (tok) tx) rest)) (T : Top p lo mean mg mb h₀)
    (hd : dp + 6 < recursionLimit) (hu : un + 60 < cLine) (hl : tok.length ≤ 1000) (hne : @LT.lt Nat _ dio io) (hne2 : @LT.lt Nat _ lex dio) (hne3 : @LT.lt Nat _ dlex lex) (hr : ∀ q ∈ rest, q.1 ≠ dio) (hr2 : ∀ q ∈ rest, q.1 ≠ dlex)
    (hret : ∀ (ts' tx' : Tok) (h' : Heap) (tk' : Nat), Fr h₀ L h' (mRT lex true es (some (.str (chS 34) tc))) → News h₀ L h' (rtNews w TT TL b WC io dio lex dlex pb fs pos t (.str (Str.ofString "a") ts') (.int ln tl) (.str tok tx) rest) → Qf .next { s with heap := h', toks := tk' }) :
    wpAny (model PySem.Challenge.rw_op0211_01.row.toRowW.prog w) ((Ar dp un gd env outer).deeper (rtEnv L)) (execs rtTail (rtEnv L)) Qf E s := by
  revert X; k_fill; intro X
  k_steps
  all_goals (refine' hret _ _ _ _ ?c ?d; (case d => first | k_asm | (refine' cb_drop (news' := _ :: _) ?n (fun p hp => List.mem_cons_of_mem _ hp); (case n => k_asm))); (case c => first | k_asm | (rw [← mRT_quoted]; k_asm)))
  all_goals exact (0 : Nat)
theorem t9_spec (B : Below A₀ base (env :: outer) h₀) (F : Fr h₀ L s.heap (mRT lex q es (some (.str (chS 39) tc)))) (X : (K w.params).In h₀)
    (N : News h₀ L s.heap (rtNews w TT TL b WC io dio lex dlex pb fs pos t (.str (Str.ofString "a") ts) (.int ln tl) (.str (tok) tx) rest)) (T : Top p lo mean mg mb h₀)
    (hd : dp + 6 < recursionLimit) (hu : un + 60 < cLine) (hl : tok.length ≤ 1000) (hne : @LT.lt Nat _ dio io) (hne2 : @LT.lt Nat _ lex dio) (hne3 : @LT.lt Nat _ dlex lex) (hr : ∀ q ∈ rest, q.1 ≠ dio) (hr2 : ∀ q ∈ rest, q.1 ≠ dlex)
    (hret : ∀ (ts' tx' : Tok) (h' : Heap) (tk' : Nat), Fr h₀ L h' (mRT lex q es (some (.str (chS 39) tc))) → News h₀ L h' (rtNews w TT TL b WC io dio lex dlex pb fs pos t (.str (chS 39) ts') (.int ln tl) (.str tok tx) rest) → Qf .next { s with heap := h', toks := tk' }) :
    wpAny (model PySem.Challenge.rw_op0211_01.row.toRowW.prog w) ((Ar dp un gd env outer).deeper (rtEnv L)) (execs rtTail (rtEnv L)) Qf E s := by
  revert X; k_fill; intro X
  k_steps
  all_goals (refine' hret _ _ _ _ ?c ?d; (case d => first | k_asm | (refine' cb_drop (news' := _ :: _) ?n (fun p hp => List.mem_cons_of_mem _ hp); (case n => k_asm))); (case c => first | k_asm | (rw [← mRT_quoted]; k_asm)))
  all_goals exact (0 : Nat)
theorem t10_spec (B : Below A₀ base (env :: outer) h₀) (F : Fr h₀ L s.heap (mRT lex q es (some (.str (chS c) tc)))) (X : (K w.params).In h₀)
    (N : News h₀ L s.heap (rtNews w TT TL b WC io dio lex dlex pb fs pos t (.str (Str.ofString "a") ts) (.int ln tl) (.str (tok) tx) rest)) (T : Top p lo mean mg mb h₀)
    (hd : dp + 6 < recursionLimit) (hu : un + 60 < cLine) (hl : tok.length ≤ 1000) (hne : @LT.lt Nat _ dio io) (hne2 : @LT.lt Nat _ lex dio) (hne3 : @LT.lt Nat _ dlex lex) (hr : ∀ q ∈ rest, q.1 ≠ dio) (hr2 : ∀ q ∈ rest, q.1 ≠ dlex) (f0 : inS c (Str.ofString " \t\r\n") = false) (f1 : inS c (Str.ofString "\\") = false) (f2 : inS c (Str.ofString "'\"") = false)
    (hret : ∀ (ts' tx' : Tok) (h' : Heap) (tk' : Nat), Fr h₀ L h' (mRT lex q es (some (.str (chS c) tc))) → News h₀ L h' (rtNews w TT TL b WC io dio lex dlex pb fs pos t (.str (Str.ofString "a") ts) (.int ln tl) (.str (tok ++ chS c) tx') rest) → Qf .next { s with heap := h', toks := tk' }) :
    wpAny (model PySem.Challenge.rw_op0211_01.row.toRowW.prog w) ((Ar dp un gd env outer).deeper (rtEnv L)) (execs rtTail (rtEnv L)) Qf E s := by
  revert X; k_fill; intro X
  k_steps
  all_goals (refine' hret _ _ _ _ ?c ?d; (case d => first | k_asm | (refine' cb_drop (news' := _ :: _) ?n (fun p hp => List.mem_cons_of_mem _ hp); (case n => k_asm))); (case c => first | k_asm | (rw [← mRT_quoted]; k_asm)))
  all_goals exact (0 : Nat)
theorem t11a_spec (B : Below A₀ base (env :: outer) h₀) (F : Fr h₀ L s.heap (mRT lex q es (some (.str (chS 32) tc)))) (X : (K w.params).In h₀)
    (N : News h₀ L s.heap (rtNews w TT TL b WC io dio lex dlex pb fs pos t (.str (Str.ofString "a") ts) (.int ln tl) (.str (tok) tx) rest)) (T : Top p lo mean mg mb h₀)
    (hd : dp + 6 < recursionLimit) (hu : un + 60 < cLine) (hl : tok.length ≤ 1000) (hne : @LT.lt Nat _ dio io) (hne2 : @LT.lt Nat _ lex dio) (hne3 : @LT.lt Nat _ dlex lex) (hr : ∀ q ∈ rest, q.1 ≠ dio) (hr2 : ∀ q ∈ rest, q.1 ≠ dlex) (f0 : ((tok.length : Int) != 0) = true)
    (hret : ∀ (ts' tx' : Tok) (h' : Heap) (tk' : Nat), Fr h₀ L h' (mRT lex q es (some (.str (chS 32) tc))) → News h₀ L h' (rtNews w TT TL b WC io dio lex dlex pb fs pos t (.str (Str.ofString " ") ts') (.int ln tl) (.str tok tx) rest) → Qf .brk { s with heap := h', toks := tk' }) :
    wpAny (model PySem.Challenge.rw_op0211_01.row.toRowW.prog w) ((Ar dp un gd env outer).deeper (rtEnv L)) (execs rtTail (rtEnv L)) Qf E s := by
  revert X; k_fill; intro X
  k_steps
  all_goals (refine' hret _ _ _ _ ?c ?d; (case d => first | k_asm | (refine' cb_drop (news' := _ :: _) ?n (fun p hp => List.mem_cons_of_mem _ hp); (case n => k_asm))); (case c => first | k_asm | (rw [← mRT_quoted]; k_asm)))
  all_goals exact (0 : Nat)
theorem t11b_spec (B : Below A₀ base (env :: outer) h₀) (F : Fr h₀ L s.heap (mRT lex true es (some (.str (chS 32) tc)))) (X : (K w.params).In h₀)
    (N : News h₀ L s.heap (rtNews w TT TL b WC io dio lex dlex pb fs pos t (.str (Str.ofString "a") ts) (.int ln tl) (.str (tok) tx) rest)) (T : Top p lo mean mg mb h₀)
    (hd : dp + 6 < recursionLimit) (hu : un + 60 < cLine) (hl : tok.length ≤ 1000) (hne : @LT.lt Nat _ dio io) (hne2 : @LT.lt Nat _ lex dio) (hne3 : @LT.lt Nat _ dlex lex) (hr : ∀ q ∈ rest, q.1 ≠ dio) (hr2 : ∀ q ∈ rest, q.1 ≠ dlex)
    (hret : ∀ (ts' tx' : Tok) (h' : Heap) (tk' : Nat), Fr h₀ L h' (mRT lex true es (some (.str (chS 32) tc))) → News h₀ L h' (rtNews w TT TL b WC io dio lex dlex pb fs pos t (.str (Str.ofString " ") ts') (.int ln tl) (.str tok tx) rest) → Qf .brk { s with heap := h', toks := tk' }) :
    wpAny (model PySem.Challenge.rw_op0211_01.row.toRowW.prog w) ((Ar dp un gd env outer).deeper (rtEnv L)) (execs rtTail (rtEnv L)) Qf E s := by
  revert X; k_fill; intro X
  k_steps
  all_goals (refine' hret _ _ _ _ ?c ?d; (case d => first | k_asm | (refine' cb_drop (news' := _ :: _) ?n (fun p hp => List.mem_cons_of_mem _ hp); (case n => k_asm))); (case c => first | k_asm | (rw [← mRT_quoted]; k_asm)))
  all_goals exact (0 : Nat)
theorem t12_spec (B : Below A₀ base (env :: outer) h₀) (F : Fr h₀ L s.heap (mRT lex q es (some (.str (Str.ofString "") tc)))) (X : (K w.params).In h₀)
    (N : News h₀ L s.heap (rtNews w TT TL b WC io dio lex dlex pb fs pos t (.str (Str.ofString "a") ts) (.int ln tl) (.str (tok) tx) rest)) (T : Top p lo mean mg mb h₀)
    (hd : dp + 6 < recursionLimit) (hu : un + 60 < cLine) (hl : tok.length ≤ 1000) (hne : @LT.lt Nat _ dio io) (hne2 : @LT.lt Nat _ lex dio) (hne3 : @LT.lt Nat _ dlex lex) (hr : ∀ q ∈ rest, q.1 ≠ dio) (hr2 : ∀ q ∈ rest, q.1 ≠ dlex)
    (hret : ∀ (ts' tx' : Tok) (h' : Heap) (tk' : Nat), Fr h₀ L h' (mRT lex q es (some (.str (Str.ofString "") tc))) → News h₀ L h' (rtNews w TT TL b WC io dio lex dlex pb fs pos t (.none) (.int ln tl) (.str tok tx) rest) → Qf .brk { s with heap := h', toks := tk' }) :
    wpAny (model PySem.Challenge.rw_op0211_01.row.toRowW.prog w) ((Ar dp un gd env outer).deeper (rtEnv L)) (execs rtTail (rtEnv L)) Qf E s := by
  revert X; k_fill; intro X
  k_steps
  all_goals (refine' hret _ _ _ _ ?c ?d; (case d => first | k_asm | (refine' cb_drop (news' := _ :: _) ?n (fun p hp => List.mem_cons_of_mem _ hp); (case n => k_asm))); (case c => first | k_asm | (rw [← mRT_quoted]; k_asm)))
  all_goals exact (0 : Nat)
theorem t13_spec (B : Below A₀ base (env :: outer) h₀) (F : Fr h₀ L s.heap (mRT lex q es (some (.str (Str.ofString "") tc)))) (X : (K w.params).In h₀)
    (N : News h₀ L s.heap (rtNews w TT TL b WC io dio lex dlex pb fs pos t (.none) (.int ln tl) (.str (tok) tx) rest)) (T : Top p lo mean mg mb h₀)
    (hd : dp + 6 < recursionLimit) (hu : un + 60 < cLine) (hl : tok.length ≤ 1000) (hne : @LT.lt Nat _ dio io) (hne2 : @LT.lt Nat _ lex dio) (hne3 : @LT.lt Nat _ dlex lex) (hr : ∀ q ∈ rest, q.1 ≠ dio) (hr2 : ∀ q ∈ rest, q.1 ≠ dlex)
    (hret : ∀ (ts' tx' : Tok) (h' : Heap) (tk' : Nat), Fr h₀ L h' (mRT lex q es (some (.str (Str.ofString "") tc))) → News h₀ L h' (rtNews w TT TL b WC io dio lex dlex pb fs pos t (.none) (.int ln tl) (.str (Str.ofString "") tx') rest) → Qf .brk { s with heap := h', toks := tk' }) :
    wpAny (model PySem.Challenge.rw_op0211_01.row.toRowW.prog w) ((Ar dp un gd env outer).deeper (rtEnv L)) (execs rtTail (rtEnv L)) Qf E s := by
  revert X; k_fill; intro X
  k_steps
  all_goals (refine' hret _ _ _ _ ?c ?d; (case d => first | k_asm | (refine' cb_drop (news' := _ :: _) ?n (fun p hp => List.mem_cons_of_mem _ hp); (case n => k_asm))); (case c => first | k_asm | (rw [← mRT_quoted]; k_asm)))
  all_goals exact (0 : Nat)
end
end
end
-- W5
section
section
variable {w : World} {p : Program} {lo : List Str} {mean : ExcName → Option Value} {mg mb : Str → Option Value} {dp un : Nat} {gd : Option (List Code)} {A₀ : Around} {env : Env} {outer : List Env} {base h₀ : Heap} {L : Addr} {m : Str → Option Value} {s : Shared} {Q E : Value → Shared → Prop} {news : List (Addr × Obj)}
inductive LS where | sp | a | q1 | q2 | no
def LS.is : LS → Value → Prop
  | .sp, v => ∃ t, v = .str (Str.ofString " ") t
  | .a, v => ∃ t, v = .str (Str.ofString "a") t
  | .q1, v => ∃ t, v = .str (chS 39) t
  | .q2, v => ∃ t, v = .str (chS 34) t
  | .no, v => v = .none
def okc (c : Nat) : Prop := inS c (Str.ofString " \t\r\n") = false ∧ inS c (Str.ofString "\\") = false ∧ inS c (Str.ofString "'\"") = false
inductive Run : LS → Bool → List Nat → List Nat → LS → Bool → List Nat → List Nat → Prop
  | t1 {cs st q tok cs'} : Run .sp false [] cs st q tok cs' → Run .sp false [] (32 :: cs) st q tok cs'
  | t2 {c q0 tok0 cs st q tok cs'} : okc c → Run .a q0 [c] cs st q tok cs' → Run .sp q0 tok0 (c :: cs) st q tok cs'
  | t3 {q0 tok0 cs st q tok cs'} : Run .q1 q0 tok0 cs st q tok cs' → Run .sp q0 tok0 (39 :: cs) st q tok cs'
  | t4 {c q0 tok0 cs st q tok cs'} : c ≠ 39 → Run .q1 true (tok0 ++ [c]) cs st q tok cs' → Run .q1 q0 tok0 (c :: cs) st q tok cs'
  | t5 {q0 tok0 cs st q tok cs'} : Run .a true tok0 cs st q tok cs' → Run .q1 q0 tok0 (39 :: cs) st q tok cs'
  | t6 {q0 tok0 cs st q tok cs'} : Run .q2 q0 tok0 cs st q tok cs' → Run .a q0 tok0 (34 :: cs) st q tok cs'
  | t7 {q0 tok0 cs st q tok cs'} : Run .q2 true (tok0 ++ [39]) cs st q tok cs' → Run .q2 q0 tok0 (39 :: cs) st q tok cs'
  | t8 {q0 tok0 cs st q tok cs'} : Run .a true tok0 cs st q tok cs' → Run .q2 q0 tok0 (34 :: cs) st q tok cs'
  | t9 {q0 tok0 cs st q tok cs'} : Run .q1 q0 tok0 cs st q tok cs' → Run .a q0 tok0 (39 :: cs) st q tok cs'
  | t10 {c q0 tok0 cs st q tok cs'} : okc c → Run .a q0 (tok0 ++ [c]) cs st q tok cs' → Run .a q0 tok0 (c :: cs) st q tok cs'
  | t11 {q0 tok0 cs} : (q0 = true ∨ tok0 ≠ []) → Run .a q0 tok0 (32 :: cs) .sp q0 tok0 cs
  | t12 {q0 tok0} : Run .a q0 tok0 [] .no q0 tok0 []
  | t13 {q0 tok0} : Run .no q0 tok0 [] .no q0 [] []
theorem drop_at {b : Str} {pos : Int} {c : Nat} {cs : List Nat} (h : b.cps.toList.drop pos.toNat = c :: cs) : b.cps[pos.toNat]? = some c := by
  have e : (b.cps.toList.drop pos.toNat)[0]? = some c := by rw [h]; rfl
  rw [List.getElem?_drop] at e
  simpa using e
theorem drop_next {b : Str} {pos : Int} {c : Nat} {cs : List Nat} (hp : 0 ≤ pos) (h : b.cps.toList.drop pos.toNat = c :: cs) : b.cps.toList.drop (pos + 1).toNat = cs := by
  have e : (pos + 1).toNat = pos.toNat + 1 := by omega
  rw [e, ← List.drop_drop, h]; rfl
theorem drop_end {b : Str} {pos : Int} (hp : 0 ≤ pos) (h : b.cps.toList.drop pos.toNat = []) : (b.length : Int) ≤ pos := by
  have := List.drop_eq_nil_iff.mp h
  have e : b.length = b.cps.toList.length := by simp [Str.length]
  omega
theorem app_ch {x : Str} {l : List Nat} {c : Nat} (h : x.cps.toList = l) : (x ++ chS c).cps.toList = l ++ [c] := by
  rw [Str.cps_append, ← h]; simp
theorem len_of {x : Str} {l : List Nat} (h : x.cps.toList = l) : x.length = l.length := by
  rw [← h]; simp [Str.length]
theorem nil_of {x : Str} (h : x.cps.toList = []) : x = Str.ofString "" := by
  have e : Str.ofString "" = ⟨#[]⟩ := by decide +kernel
  rw [e]
  cases x with
  | mk cps => congr 1; exact Array.toList_eq_nil_iff.mp h
theorem rtSplit : rtLoop = rtPre ++ rtTail := by kernel_rfl
section
variable {io dio lex dlex pb fs : Addr} {b WC : Str} {TT : ST} {TL : LT} {rest : List (Addr × Obj)} {R : Result → Shared → Prop} {es : Option Value} {wk : Nat} {wp : Pos}
theorem rt_loop (B : Below A₀ base (env :: outer) h₀) (X : (K w.params).In h₀) (T : Top p lo mean mg mb h₀)
    (hd : dp + 6 < recursionLimit) (hu : un + 60 < cLine) (hb : b.length ≤ 1000) (hWC : inS 39 WC = false) (hne : @LT.lt Nat _ dio io) (hne2 : @LT.lt Nat _ lex dio) (hne3 : @LT.lt Nat _ dlex lex) (hr : ∀ q ∈ rest, q.1 ≠ dio) (hr2 : ∀ q ∈ rest, q.1 ≠ dlex)
    {st : LS} {q : Bool} {tok cs : List Nat} {st' : LS} {q' : Bool} {tok' cs' : List Nat} (hR : Run st q tok cs st' q' tok' cs') :
    ∀ (s : Shared) (nc : Option Value) (pos : Int) (t : Tok) (sv : Value) (ln : Int) (tl tx : Tok) (x : Str), st.is sv → x.cps.toList = tok → tok.length + cs.length ≤ 1000 → 0 ≤ pos → b.cps.toList.drop pos.toNat = cs →
      Fr h₀ L s.heap (mRT lex q es nc) → News h₀ L s.heap (rtNews w TT TL b WC io dio lex dlex pb fs pos t sv (.int ln tl) (.str x tx) rest) →
      (∀ (nc' : Option Value) (pos' : Int) (t' : Tok) (sv' : Value) (ln' : Int) (tl' tx' : Tok) (x' : Str) (h' : Heap) (tk' : Nat), st'.is sv' → x'.cps.toList = tok' → 0 ≤ pos' → b.cps.toList.drop pos'.toNat = cs' →
        Fr h₀ L h' (mRT lex q' es nc') → News h₀ L h' (rtNews w TT TL b WC io dio lex dlex pb fs pos' t' sv' (.int ln' tl') (.str x' tx') rest) → R (.ok .next) { s with heap := h', toks := tk' }) →
      codeAny (model PySem.Challenge.rw_op0211_01.row.toRowW.prog w) ((Ar dp un gd env outer).deeper (rtEnv L)) (.whileLoop (.Constant (.bool true) wk wp) rtLoop [] (rtEnv L)) R s := by
  induction hR with
  | t1 _ ih =>
    intro s nc pos t sv ln tl tx x hs hx hl hp hc F N hret
    obtain ⟨ts, rfl⟩ := hs
    obtain rfl := nil_of hx
    refine while_true ?_
    rw [rtSplit]
    refine execs_app (pre_spec B F X N T hd hu hb hp (drop_at hc) hne hne2 hne3 hr hr2 fun ln' tl' tc t' h' tk' F' N' => ?_)
    refine t1_spec (tok := Str.ofString "") B F' X N' T hd hu (by have := len_of hx; omega) hne hne2 hne3 hr hr2 fun ts' tx' h2 tk2 F2 N2 => ?_
    exact ih _ _ _ _ _ _ _ _ _ ⟨_, rfl⟩ hx (by simp at hl ⊢; omega) (by omega) (drop_next hp hc) F2 N2 hret
  | t2 ok _ ih =>
    intro s nc pos t sv ln tl tx x hs hx hl hp hc F N hret
    obtain ⟨ts, rfl⟩ := hs
    refine while_true ?_
    rw [rtSplit]
    refine execs_app (pre_spec B F X N T hd hu hb hp (drop_at hc) hne hne2 hne3 hr hr2 fun ln' tl' tc t' h' tk' F' N' => ?_)
    refine t2_spec B F' X N' T hd hu (by have := len_of hx; simp at hl; omega) hne hne2 hne3 hr hr2 ok.1 ok.2.1 ok.2.2 fun ts' tx' h2 tk2 F2 N2 => ?_
    exact ih _ _ _ _ _ _ _ _ _ ⟨_, rfl⟩ rfl (by simp at hl ⊢; omega) (by omega) (drop_next hp hc) F2 N2 hret
  | t3 _ ih =>
    intro s nc pos t sv ln tl tx x hs hx hl hp hc F N hret
    obtain ⟨ts, rfl⟩ := hs
    refine while_true ?_
    rw [rtSplit]
    refine execs_app (pre_spec B F X N T hd hu hb hp (drop_at hc) hne hne2 hne3 hr hr2 fun ln' tl' tc t' h' tk' F' N' => ?_)
    refine t3_spec B F' X N' T hd hu (by have := len_of hx; simp at hl; omega) hne hne2 hne3 hr hr2 hWC fun ts' tx' h2 tk2 F2 N2 => ?_
    exact ih _ _ _ _ _ _ _ _ _ ⟨_, rfl⟩ hx (by simp at hl ⊢; omega) (by omega) (drop_next hp hc) F2 N2 hret
  | @t4 c _ _ _ _ _ _ _ ne _ ih =>
    intro s nc pos t sv ln tl tx x hs hx hl hp hc F N hret
    obtain ⟨ts, rfl⟩ := hs
    refine while_true ?_
    rw [rtSplit]
    refine execs_app (pre_spec B F X N T hd hu hb hp (drop_at hc) hne hne2 hne3 hr hr2 fun ln' tl' tc t' h' tk' F' N' => ?_)
    refine t4_spec B F' X N' T hd hu (by have := len_of hx; simp at hl; omega) hne hne2 hne3 hr hr2 (by rw [beq_eq_false_iff_ne]; intro e; injection e with e; injection e with e; injection e with e; exact ne e) fun ts' tx' h2 tk2 F2 N2 => ?_
    exact ih _ _ _ _ _ _ _ _ _ ⟨_, rfl⟩ (app_ch hx) (by simp at hl ⊢; omega) (by omega) (drop_next hp hc) F2 N2 hret
  | t5 _ ih =>
    intro s nc pos t sv ln tl tx x hs hx hl hp hc F N hret
    obtain ⟨ts, rfl⟩ := hs
    refine while_true ?_
    rw [rtSplit]
    refine execs_app (pre_spec B F X N T hd hu hb hp (drop_at hc) hne hne2 hne3 hr hr2 fun ln' tl' tc t' h' tk' F' N' => ?_)
    refine t5_spec B F' X N' T hd hu (by have := len_of hx; simp at hl; omega) hne hne2 hne3 hr hr2 fun ts' tx' h2 tk2 F2 N2 => ?_
    exact ih _ _ _ _ _ _ _ _ _ ⟨_, rfl⟩ hx (by simp at hl ⊢; omega) (by omega) (drop_next hp hc) F2 N2 hret
  | t6 _ ih =>
    intro s nc pos t sv ln tl tx x hs hx hl hp hc F N hret
    obtain ⟨ts, rfl⟩ := hs
    refine while_true ?_
    rw [rtSplit]
    refine execs_app (pre_spec B F X N T hd hu hb hp (drop_at hc) hne hne2 hne3 hr hr2 fun ln' tl' tc t' h' tk' F' N' => ?_)
    refine t6_spec B F' X N' T hd hu (by have := len_of hx; simp at hl; omega) hne hne2 hne3 hr hr2 fun ts' tx' h2 tk2 F2 N2 => ?_
    exact ih _ _ _ _ _ _ _ _ _ ⟨_, rfl⟩ hx (by simp at hl ⊢; omega) (by omega) (drop_next hp hc) F2 N2 hret
  | t7 _ ih =>
    intro s nc pos t sv ln tl tx x hs hx hl hp hc F N hret
    obtain ⟨ts, rfl⟩ := hs
    refine while_true ?_
    rw [rtSplit]
    refine execs_app (pre_spec B F X N T hd hu hb hp (drop_at hc) hne hne2 hne3 hr hr2 fun ln' tl' tc t' h' tk' F' N' => ?_)
    refine t7_spec B F' X N' T hd hu (by have := len_of hx; simp at hl; omega) hne hne2 hne3 hr hr2 fun ts' tx' h2 tk2 F2 N2 => ?_
    exact ih _ _ _ _ _ _ _ _ _ ⟨_, rfl⟩ (app_ch hx) (by simp at hl ⊢; omega) (by omega) (drop_next hp hc) F2 N2 hret
  | t8 _ ih =>
    intro s nc pos t sv ln tl tx x hs hx hl hp hc F N hret
    obtain ⟨ts, rfl⟩ := hs
    refine while_true ?_
    rw [rtSplit]
    refine execs_app (pre_spec B F X N T hd hu hb hp (drop_at hc) hne hne2 hne3 hr hr2 fun ln' tl' tc t' h' tk' F' N' => ?_)
    refine t8_spec B F' X N' T hd hu (by have := len_of hx; simp at hl; omega) hne hne2 hne3 hr hr2 fun ts' tx' h2 tk2 F2 N2 => ?_
    exact ih _ _ _ _ _ _ _ _ _ ⟨_, rfl⟩ hx (by simp at hl ⊢; omega) (by omega) (drop_next hp hc) F2 N2 hret
  | t9 _ ih =>
    intro s nc pos t sv ln tl tx x hs hx hl hp hc F N hret
    obtain ⟨ts, rfl⟩ := hs
    refine while_true ?_
    rw [rtSplit]
    refine execs_app (pre_spec B F X N T hd hu hb hp (drop_at hc) hne hne2 hne3 hr hr2 fun ln' tl' tc t' h' tk' F' N' => ?_)
    refine t9_spec B F' X N' T hd hu (by have := len_of hx; simp at hl; omega) hne hne2 hne3 hr hr2 fun ts' tx' h2 tk2 F2 N2 => ?_
    exact ih _ _ _ _ _ _ _ _ _ ⟨_, rfl⟩ hx (by simp at hl ⊢; omega) (by omega) (drop_next hp hc) F2 N2 hret
  | t10 ok _ ih =>
    intro s nc pos t sv ln tl tx x hs hx hl hp hc F N hret
    obtain ⟨ts, rfl⟩ := hs
    refine while_true ?_
    rw [rtSplit]
    refine execs_app (pre_spec B F X N T hd hu hb hp (drop_at hc) hne hne2 hne3 hr hr2 fun ln' tl' tc t' h' tk' F' N' => ?_)
    refine t10_spec B F' X N' T hd hu (by have := len_of hx; simp at hl; omega) hne hne2 hne3 hr hr2 ok.1 ok.2.1 ok.2.2 fun ts' tx' h2 tk2 F2 N2 => ?_
    exact ih _ _ _ _ _ _ _ _ _ ⟨_, rfl⟩ (app_ch hx) (by simp at hl ⊢; omega) (by omega) (drop_next hp hc) F2 N2 hret
  | @t11 q0 tok0 cs hq =>
    intro s nc pos t sv ln tl tx x hs hx hl hp hc F N hret
    obtain ⟨ts, rfl⟩ := hs
    refine while_true ?_
    rw [rtSplit]
    refine execs_app (pre_spec B F X N T hd hu hb hp (drop_at hc) hne hne2 hne3 hr hr2 fun ln' tl' tc t' h' tk' F' N' => ?_)
    rcases hq with hq | hq
    · subst hq
      refine t11b_spec B F' X N' T hd hu (by have := len_of hx; simp at hl; omega) hne hne2 hne3 hr hr2 fun ts' tx' h2 tk2 F2 N2 => ?_
      exact hret _ _ _ _ _ _ _ _ _ _ ⟨_, rfl⟩ hx (by omega) (drop_next hp hc) F2 N2
    · refine t11a_spec B F' X N' T hd hu (by have := len_of hx; simp at hl; omega) hne hne2 hne3 hr hr2 (by have := len_of hx; rw [bne_iff_ne]; intro e; apply hq; apply List.eq_nil_of_length_eq_zero; omega) fun ts' tx' h2 tk2 F2 N2 => ?_
      exact hret _ _ _ _ _ _ _ _ _ _ ⟨_, rfl⟩ hx (by omega) (drop_next hp hc) F2 N2
  | t12 =>
    intro s nc pos t sv ln tl tx x hs hx hl hp hc F N hret
    obtain ⟨ts, rfl⟩ := hs
    refine while_true ?_
    rw [rtSplit]
    refine execs_app (pre0_spec B F X N T hd hu hb hp (drop_end hp hc) hne hne2 hne3 hr hr2 fun tc h' tk' F' N' => ?_)
    refine t12_spec B F' X N' T hd hu (by have := len_of hx; simp at hl; omega) hne hne2 hne3 hr hr2 fun ts' tx' h2 tk2 F2 N2 => ?_
    exact hret _ _ _ _ _ _ _ _ _ _ rfl hx hp hc F2 N2
  | t13 =>
    intro s nc pos t sv ln tl tx x hs hx hl hp hc F N hret
    obtain rfl : sv = .none := hs
    refine while_true ?_
    rw [rtSplit]
    refine execs_app (pre0_spec B F X N T hd hu hb hp (drop_end hp hc) hne hne2 hne3 hr hr2 fun tc h' tk' F' N' => ?_)
    refine t13_spec B F' X N' T hd hu (by have := len_of hx; simp at hl; omega) hne hne2 hne3 hr hr2 fun ts' tx' h2 tk2 F2 N2 => ?_
    exact hret _ _ _ _ _ _ _ _ _ _ rfl (by decide +kernel) hp hc F2 N2
end
end
end
-- W6
section
section
variable {w : World} {p : Program} {lo : List Str} {mean : ExcName → Option Value} {mg mb : Str → Option Value} {dp un : Nat} {gd : Option (List Code)} {A₀ : Around} {env : Env} {outer : List Env} {base h₀ : Heap} {L : Addr} {m : Str → Option Value} {s : Shared} {Q E : Value → Shared → Prop} {news : List (Addr × Obj)}
def RV (q : Bool) (tok : List Nat) (v : Value) : Prop := (q = false ∧ tok = [] ∧ v = .none) ∨ ((q = true ∨ tok ≠ []) ∧ ∃ x t, v = .str x t ∧ x.cps.toList = tok)
theorem RV_T {q : Bool} {tok : List Nat} {x : Str} {t : Tok} (h : q = true) (hx : x.cps.toList = tok) : RV q tok (.str x t) := .inr ⟨.inl h, x, t, rfl, hx⟩
theorem RV_N {q : Bool} {tok : List Nat} {x : Str} (h : q = false) (hx : x.cps.toList = tok) (e : (x == Str.ofString "") = true) : RV q tok .none := by
  refine .inl ⟨h, ?_, rfl⟩
  rw [← hx, beq_iff_eq.mp e]
  decide +kernel
theorem RV_S {q : Bool} {tok : List Nat} {x : Str} {t : Tok} (hx : x.cps.toList = tok) (e : (x == Str.ofString "") = false) : RV q tok (.str x t) := by
  refine .inr ⟨.inr ?_, x, t, rfl, hx⟩
  intro h
  subst h
  rw [nil_of hx] at e
  revert e
  decide +kernel
theorem mRT_start {lex : Addr} {v : Value} {l : List (Str × Value)} (h : l = [(Str.ofString "self", .ref lex)]) : (fun y => if y = Str.ofString "escapedstate" then some v else if y = Str.ofString "quoted" then some (.bool false) else List.lookup y l) = mRT lex false (some v) none := by
  subst h
  funext y
  unfold mRT
  have e1 : ¬ (Str.ofString "escapedstate" = Str.ofString "nextchar") := by decide +kernel
  have e2 : ¬ (Str.ofString "escapedstate" = Str.ofString "quoted") := by decide +kernel
  have e3 : ¬ (Str.ofString "quoted" = Str.ofString "nextchar") := by decide +kernel
  have e4 : ¬ (Str.ofString "nextchar" = Str.ofString "escapedstate") := by decide +kernel
  have e5 : ¬ (Str.ofString "nextchar" = Str.ofString "quoted") := by decide +kernel
  have e6 : ¬ (Str.ofString "nextchar" = Str.ofString "self") := by decide +kernel
  by_cases h1 : y = Str.ofString "nextchar"
  · subst h1
    rw [if_neg e4, if_neg e5, if_pos rfl]
    have e7 : (Str.ofString "nextchar" == Str.ofString "self") = false := beq_eq_false_iff_ne.mpr e6
    simp only [List.lookup, e7]
  · by_cases h2 : y = Str.ofString "escapedstate"
    · subst h2; rw [if_pos rfl, if_neg e1, if_neg e2, if_pos rfl]
    · by_cases h3 : y = Str.ofString "quoted"
      · subst h3; rw [if_neg h2, if_pos rfl, if_neg e3, if_pos rfl]
      · rw [if_neg h2, if_neg h3, if_neg h1, if_neg h3, if_neg h2]
        by_cases h4 : y = Str.ofString "self"
        · subst h4; simp [List.lookup]
        · have e8 : (y == Str.ofString "self") = false := beq_eq_false_iff_ne.mpr h4
          simp only [List.lookup, e8, if_neg h4]
section
variable {io dio lex dlex pb fs : Addr} {b WC : Str} {TT : ST} {TL : LT} {rest : List (Addr × Obj)} {pos : Int} {t : Tok} {sv : Value} {ln : Int} {tl tx : Tok} {x : Str} {es : Option Value} {Qf : Flow → Shared → Prop} {wk : Nat} {wp wq : Pos}
theorem rt_while (B : Below A₀ base (env :: outer) h₀) (F : Fr h₀ L s.heap m) (X : (K w.params).In h₀) (N : News h₀ L s.heap (rtNews w TT TL b WC io dio lex dlex pb fs pos t sv (.int ln tl) (.str x tx) rest)) (T : Top p lo mean mg mb h₀) (hm : m = mRT lex false es none)
    (hd : dp + 6 < recursionLimit) (hu : un + 60 < cLine) (hb : b.length ≤ 1000) (hWC : inS 39 WC = false) (hne : @LT.lt Nat _ dio io) (hne2 : @LT.lt Nat _ lex dio) (hne3 : @LT.lt Nat _ dlex lex) (hr : ∀ q ∈ rest, q.1 ≠ dio) (hr2 : ∀ q ∈ rest, q.1 ≠ dlex)
    {st : LS} {tok cs : List Nat} {st' : LS} {q' : Bool} {tok' cs' : List Nat} (hR : Run st false tok cs st' q' tok' cs')
    (hs : st.is sv) (hx : x.cps.toList = tok) (hl : tok.length + cs.length ≤ 1000) (hp : 0 ≤ pos) (hc : b.cps.toList.drop pos.toNat = cs)
    (hret : ∀ (nc' : Option Value) (pos' : Int) (t' : Tok) (sv' : Value) (ln' : Int) (tl' tx' : Tok) (x' : Str) (h' : Heap) (tk' : Nat), st'.is sv' → x'.cps.toList = tok' → 0 ≤ pos' → b.cps.toList.drop pos'.toNat = cs' →
        Fr h₀ L h' (mRT lex q' es nc') → News h₀ L h' (rtNews w TT TL b WC io dio lex dlex pb fs pos' t' sv' (.int ln' tl') (.str x' tx') rest) → Qf .next { s with heap := h', toks := tk' }) :
    wpAny (model PySem.Challenge.rw_op0211_01.row.toRowW.prog w) ((Ar dp un gd env outer).deeper (rtEnv L)) (exec (.While (.Constant (.bool true) wk wp) rtLoop [] wq) (rtEnv L)) Qf E s := by
  subst hm
  refine wpAny_While ?_
  exact rt_loop B X T hd hu hb hWC hne hne2 hne3 hr hr2 hR s none pos t sv ln tl tx x hs hx hl hp hc F N hret
end
local macro_rules | `(tactic| walk_at "exec While") => `(tactic| (k_here; k_dflt (refine' rt_while ?k1 ?k2 ?k3 ?k4 ?k5 ?hm ?kd ?ku ?e0 ?e1 ?e2 ?e3 ?e4 ?e5 ?e6 ?e7 ?e8 ?e9 ?e10 ?e11 ?e12 ?hr; (case k1 | k2 | k3 | k4 | k5 => k_asm); (case hm => exact mRT_start (by kernel_rfl)); (case kd | ku => omega); (case e0 | e1 | e2 | e3 | e4 | e5 | e6 | e7 | e8 | e9 | e10 | e11 | e12 => assumption); intro nc' pos' t' sv' ln' tl' tx' x' h' tk' hs' hx' hp' hc' F' N')))
section
variable {io dio lex dlex pb fs : Addr} {b WC : Str} {TT : ST} {TL : LT} {rest : List (Addr × Obj)} {pos : Int} {t : Tok} {sv : Value} {ln : Int} {tl tx : Tok} {x : Str}
theorem read_token_spec (B : Below A₀ base outer h₀) (F : Fr h₀ L s.heap m) (X : (K w.params).In h₀) (N : News h₀ L s.heap (rtNews w TT TL b WC io dio lex dlex pb fs pos t sv (.int ln tl) (.str x tx) rest)) (T : Top p lo mean mg mb h₀) (hf : env.frame = some L) (hke : env.scope.kind = .function)
    (hd : dp + 8 < recursionLimit) (hu : un + 70 < cLine) (hb : b.length ≤ 1000) (hWC : inS 39 WC = false) (hne : @LT.lt Nat _ dio io) (hne2 : @LT.lt Nat _ lex dio) (hne3 : @LT.lt Nat _ dlex lex) (hr : ∀ q ∈ rest, q.1 ≠ dio) (hr2 : ∀ q ∈ rest, q.1 ≠ dlex)
    {st : LS} {tok cs : List Nat} {st' : LS} {q' : Bool} {tok' cs' : List Nat} (hR : Run st false tok cs st' q' tok' cs')
    (hs : st.is sv) (hx : x.cps.toList = tok) (hl : tok.length + cs.length ≤ 1000) (hp : 0 ≤ pos) (hc : b.cps.toList.drop pos.toNat = cs)
    (hret : ∀ (rv : Value) (pos' : Int) (t' : Tok) (sv' : Value) (ln' : Int) (tl' tx' : Tok) (h' : Heap) (tk' : Nat), RV q' tok' rv → st'.is sv' → 0 ≤ pos' → b.cps.toList.drop pos'.toNat = cs' →
        Fr h₀ L h' m → News h₀ L h' (rtNews w TT TL b WC io dio lex dlex pb fs pos' t' sv' (.int ln' tl') (.str (Str.ofString "") tx') rest) → Q rv { s with heap := h', toks := tk' }) :
    wpAny (model PySem.Challenge.rw_op0211_01.row.toRowW.prog w) (Ar dp un gd env outer) (call (.ref 709) [.ref lex]) Q E s := by
  revert X; k_fill; intro X
  k_steps
  · refine' hret _ _ _ _ _ _ _ _ _ (RV_T (by assumption) (by assumption)) (by assumption) (by assumption) (by assumption) ?c ?d; (case d => k_asm); (case c => k_asm)
  · refine' hret _ _ _ _ _ _ _ _ _ (RV_N (by assumption) (by assumption) (by assumption)) (by assumption) (by assumption) (by assumption) ?c ?d; (case d => k_asm); (case c => k_asm)
  · refine' hret _ _ _ _ _ _ _ _ _ (RV_S (by assumption) (by assumption)) (by assumption) (by assumption) (by assumption) ?c ?d; (case d => k_asm); (case c => k_asm)
end
end
end
-- W7
section
section
variable {w : World} {p : Program} {lo : List Str} {mean : ExcName → Option Value} {mg mb : Str → Option Value} {dp un : Nat} {gd : Option (List Code)} {A₀ : Around} {env : Env} {outer : List Env} {base h₀ : Heap} {L : Addr} {m : Str → Option Value} {s : Shared} {Q E : Value → Shared → Prop} {news : List (Addr × Obj)}
section
variable {io dio lex dlex pb fs : Addr} {b WC : Str} {TT : ST} {TL : LT} {rest : List (Addr × Obj)} {pos : Int} {t : Tok} {sv : Value} {ln : Int} {tl tx : Tok} {x : Str}
theorem read_token_S (B : Below A₀ base outer h₀) (F : Fr h₀ L s.heap m) (X : (K w.params).In h₀) (N : News h₀ L s.heap (rtNews w TT TL b WC io dio lex dlex pb fs pos t sv (.int ln tl) (.str x tx) rest)) (T : Top p lo mean mg mb h₀) (hf : env.frame = some L) (hke : env.scope.kind = .function)
    (hd : dp + 8 < recursionLimit) (hu : un + 70 < cLine) (hb : b.length ≤ 1000) (hWC : inS 39 WC = false) (hne : @LT.lt Nat _ dio io) (hne2 : @LT.lt Nat _ lex dio) (hne3 : @LT.lt Nat _ dlex lex) (hr : ∀ q ∈ rest, q.1 ≠ dio) (hr2 : ∀ q ∈ rest, q.1 ≠ dlex)
    {st : LS} {tok cs : List Nat} {st' : LS} {q' : Bool} {tok' cs' : List Nat} (hR : Run st false tok cs st' q' tok' cs')
    (hs : st.is sv) (hx : x.cps.toList = tok) (hl : tok.length + cs.length ≤ 1000) (hp : 0 ≤ pos) (hc : b.cps.toList.drop pos.toNat = cs) (hq : q' = true ∨ tok' ≠ [])
    (hret : ∀ (x' : Str) (tr : Tok) (pos' : Int) (t' : Tok) (sv' : Value) (ln' : Int) (tl' tx' : Tok) (h' : Heap) (tk' : Nat), x'.cps.toList = tok' → st'.is sv' → 0 ≤ pos' → b.cps.toList.drop pos'.toNat = cs' →
        Fr h₀ L h' m → News h₀ L h' (rtNews w TT TL b WC io dio lex dlex pb fs pos' t' sv' (.int ln' tl') (.str (Str.ofString "") tx') rest) → Q (.str x' tr) { s with heap := h', toks := tk' }) :
    wpAny (model PySem.Challenge.rw_op0211_01.row.toRowW.prog w) (Ar dp un gd env outer) (call (.ref 709) [.ref lex]) Q E s := by
  refine read_token_spec B F X N T hf hke hd hu hb hWC hne hne2 hne3 hr hr2 hR hs hx hl hp hc ?_
  intro rv pos' t' sv' ln' tl' tx' h' tk' hv h1 h2 h3 F' N'
  rcases hv with ⟨a, b, _⟩ | ⟨_, x', tr, rfl, e⟩
  · rcases hq with hq | hq
    · rw [a] at hq; cases hq
    · exact absurd b hq
  · exact hret _ _ _ _ _ _ _ _ _ _ e h1 h2 h3 F' N'
theorem read_token_N (B : Below A₀ base outer h₀) (F : Fr h₀ L s.heap m) (X : (K w.params).In h₀) (N : News h₀ L s.heap (rtNews w TT TL b WC io dio lex dlex pb fs pos t sv (.int ln tl) (.str x tx) rest)) (T : Top p lo mean mg mb h₀) (hf : env.frame = some L) (hke : env.scope.kind = .function)
    (hd : dp + 8 < recursionLimit) (hu : un + 70 < cLine) (hb : b.length ≤ 1000) (hWC : inS 39 WC = false) (hne : @LT.lt Nat _ dio io) (hne2 : @LT.lt Nat _ lex dio) (hne3 : @LT.lt Nat _ dlex lex) (hr : ∀ q ∈ rest, q.1 ≠ dio) (hr2 : ∀ q ∈ rest, q.1 ≠ dlex)
    {st : LS} {tok cs : List Nat} {st' : LS} {cs' : List Nat} (hR : Run st false tok cs st' false [] cs')
    (hs : st.is sv) (hx : x.cps.toList = tok) (hl : tok.length + cs.length ≤ 1000) (hp : 0 ≤ pos) (hc : b.cps.toList.drop pos.toNat = cs)
    (hret : ∀ (pos' : Int) (t' : Tok) (sv' : Value) (ln' : Int) (tl' tx' : Tok) (h' : Heap) (tk' : Nat), st'.is sv' → 0 ≤ pos' → b.cps.toList.drop pos'.toNat = cs' →
        Fr h₀ L h' m → News h₀ L h' (rtNews w TT TL b WC io dio lex dlex pb fs pos' t' sv' (.int ln' tl') (.str (Str.ofString "") tx') rest) → Q .none { s with heap := h', toks := tk' }) :
    wpAny (model PySem.Challenge.rw_op0211_01.row.toRowW.prog w) (Ar dp un gd env outer) (call (.ref 709) [.ref lex]) Q E s := by
  refine read_token_spec B F X N T hf hke hd hu hb hWC hne hne2 hne3 hr hr2 hR hs hx hl hp hc ?_
  intro rv pos' t' sv' ln' tl' tx' h' tk' hv h1 h2 h3 F' N'
  rcases hv with ⟨_, _, rfl⟩ | ⟨h, _⟩
  · exact hret _ _ _ _ _ _ _ _ h1 h2 h3 F' N'
  · rcases h with h | h
    · cases h
    · exact absurd rfl h
end
local macro_rules | `(tactic| walk_at "call ref") => `(tactic| (k_here; (with_reducible show wpAny _ _ (call (Value.ref 709) _) _ _ _); k_dflt (refine' read_token_N ?k1 ?k2 ?k3 ?k4 ?k5 ?kF ?kK ?kd ?ku ?e0 ?e1 ?e2 ?e3 ?e4 ?e5 ?e6 ?e7 ?e8 ?e9 ?e10 ?e11 ?e12 ?hr; walk_at "mine std"; (case e0 | e1 | e2 | e3 | e4 => assumption); (case e5 | e6 => k_all); (case e7 | e8 | e9 | e10 | e11 | e12 => assumption); intro pos' t' sv' ln' tl' tx' h' tk' hs' hp' hc' F' N')))
local macro_rules | `(tactic| walk_at "call ref") => `(tactic| (k_here; (with_reducible show wpAny _ _ (call (Value.ref 709) _) _ _ _); k_dflt (refine' read_token_S ?k1 ?k2 ?k3 ?k4 ?k5 ?kF ?kK ?kd ?ku ?e0 ?e1 ?e2 ?e3 ?e4 ?e5 ?e6 ?e7 ?e8 ?e9 ?e10 ?e11 ?e12 ?e13 ?hr; walk_at "mine std"; (case e0 | e1 | e2 | e3 | e4 => assumption); (case e5 | e6 => k_all); (case e7 | e8 | e9 | e10 | e11 | e12 | e13 => assumption); intro x' tr' pos' t' sv' ln' tl' tx' h' tk' hx' hs' hp' hc' F' N')))
local macro_rules | `(tactic| walk_at "truthy ref") => `(tactic| (k_here; k_dflt (refine' truthy_deque ?h ?_; (case h => exact News.get (by k_asm) (by k_mem)))))
section
variable {io dio lex dlex pb fs : Addr} {b WC : Str} {TT : ST} {TL : LT} {rest : List (Addr × Obj)} {pos : Int} {t : Tok} {sv : Value} {ln : Int} {tl tx : Tok} {x : Str}
abbrev lxNews (w : World) (TT : ST) (TL : LT) (b WC : Str) (io dio lex dlex pb fs : Addr) (pos : Int) (t : Tok) (st ln tk : Value) (rest : List (Addr × Obj)) : List (Addr × Obj) :=
  (io, instObj 606 dio) :: (dio, dictOf (sioEs w TT b pos t) 3) :: (lex, instObj 741 dlex) :: (dlex, dictOf (lexEs w TL WC io pb fs st ln tk) 19) :: (pb, dqObj) :: (fs, dqObj) :: rest
theorem get_token_S (B : Below A₀ base outer h₀) (F : Fr h₀ L s.heap m) (X : (K w.params).In h₀) (N : News h₀ L s.heap (lxNews w TT TL b WC io dio lex dlex pb fs pos t sv (.int ln tl) (.str x tx) rest)) (T : Top p lo mean mg mb h₀) (hf : env.frame = some L) (hke : env.scope.kind = .function)
    (hd : dp + 9 < recursionLimit) (hu : un + 80 < cLine) (hb : b.length ≤ 1000) (hWC : inS 39 WC = false) (hne : @LT.lt Nat _ dio io) (hne2 : @LT.lt Nat _ lex dio) (hne3 : @LT.lt Nat _ dlex lex) (hn4 : @LT.lt Nat _ io pb) (hn5 : @LT.lt Nat _ pb fs) (hr : ∀ q ∈ rest, q.1 ≠ dio) (hr2 : ∀ q ∈ rest, q.1 ≠ dlex)
    {st : LS} {tok cs : List Nat} {st' : LS} {q' : Bool} {tok' cs' : List Nat} (hR : Run st false tok cs st' q' tok' cs')
    (hs : st.is sv) (hx : x.cps.toList = tok) (hl : tok.length + cs.length ≤ 1000) (hp : 0 ≤ pos) (hc : b.cps.toList.drop pos.toNat = cs) (hq : q' = true ∨ tok' ≠ [])
    (hret : ∀ (x' : Str) (tr : Tok) (pos' : Int) (t' : Tok) (sv' : Value) (ln' : Int) (tl' tx' : Tok) (h' : Heap) (tk' : Nat), x'.cps.toList = tok' → st'.is sv' → 0 ≤ pos' → b.cps.toList.drop pos'.toNat = cs' →
        Fr h₀ L h' m → News h₀ L h' (lxNews w TT TL b WC io dio lex dlex pb fs pos' t' sv' (.int ln' tl') (.str (Str.ofString "") tx') rest) → Q (.str x' tr) { s with heap := h', toks := tk' }) :
    wpAny (model PySem.Challenge.rw_op0211_01.row.toRowW.prog w) (Ar dp un gd env outer) (call (.ref 702) [.ref lex]) Q E s := by
  revert X; k_fill; intro X
  k_steps
  all_goals (refine' hret _ _ _ _ _ _ _ _ _ _ ?a ?b ?e ?f ?c ?d; (case d => k_asm); (case c => k_asm); (case a => assumption); (case b => assumption); (case e => assumption); (case f => assumption))
theorem get_token_N (B : Below A₀ base outer h₀) (F : Fr h₀ L s.heap m) (X : (K w.params).In h₀) (N : News h₀ L s.heap (lxNews w TT TL b WC io dio lex dlex pb fs pos t sv (.int ln tl) (.str x tx) rest)) (T : Top p lo mean mg mb h₀) (hf : env.frame = some L) (hke : env.scope.kind = .function)
    (hd : dp + 9 < recursionLimit) (hu : un + 80 < cLine) (hb : b.length ≤ 1000) (hWC : inS 39 WC = false) (hne : @LT.lt Nat _ dio io) (hne2 : @LT.lt Nat _ lex dio) (hne3 : @LT.lt Nat _ dlex lex) (hn4 : @LT.lt Nat _ io pb) (hn5 : @LT.lt Nat _ pb fs) (hr : ∀ q ∈ rest, q.1 ≠ dio) (hr2 : ∀ q ∈ rest, q.1 ≠ dlex)
    {st : LS} {tok cs : List Nat} {st' : LS} {cs' : List Nat} (hR : Run st false tok cs st' false [] cs')
    (hs : st.is sv) (hx : x.cps.toList = tok) (hl : tok.length + cs.length ≤ 1000) (hp : 0 ≤ pos) (hc : b.cps.toList.drop pos.toNat = cs)
    (hret : ∀ (pos' : Int) (t' : Tok) (sv' : Value) (ln' : Int) (tl' tx' : Tok) (h' : Heap) (tk' : Nat), st'.is sv' → 0 ≤ pos' → b.cps.toList.drop pos'.toNat = cs' →
        Fr h₀ L h' m → News h₀ L h' (lxNews w TT TL b WC io dio lex dlex pb fs pos' t' sv' (.int ln' tl') (.str (Str.ofString "") tx') rest) → Q .none { s with heap := h', toks := tk' }) :
    wpAny (model PySem.Challenge.rw_op0211_01.row.toRowW.prog w) (Ar dp un gd env outer) (call (.ref 702) [.ref lex]) Q E s := by
  revert X; k_fill; intro X
  k_steps
  all_goals (refine' hret _ _ _ _ _ _ _ _ ?b ?e ?f ?c ?d; (case d => k_asm); (case c => k_asm); (case b => assumption); (case e => assumption); (case f => assumption))
end
end
end
-- W11
section
section
variable {w : World} {p : Program} {lo : List Str} {mean : ExcName → Option Value} {mg mb : Str → Option Value} {dp un : Nat} {gd : Option (List Code)} {A₀ : Around} {env : Env} {outer : List Env} {base h₀ : Heap} {L : Addr} {m : Str → Option Value} {s : Shared} {Q E : Value → Shared → Prop} {news : List (Addr × Obj)}
theorem sio_newattr (P : Params) : findCls (K P) (.ref 606) (.type "type") "__new__" = some (.get (.builtin "staticmethod.__get__") (.ref 103) .none (.ref 606)) := by kernel_rfl
theorem sio_typ (P : Params) : typeIn (K P) (.ref 606) = some (.type "type") := by kernel_rfl
theorem sio_reads (P : Params) : readsIn (K P) 606 (.type "type") = true := by kernel_rfl
theorem sio_rec (P : Params) : recIn (K P) 103 "staticmethod" = some [.ref 99] := by kernel_rfl
theorem sio_mro (P : Params) (S : Setting) : peek (K P) S (mroOf (.ref 606)) = some [.ref 606, .ref 129, .ref 102, .type "object"] := by kernel_rfl
theorem sio_made (P : Params) (S : Setting) : peek (K P) S (Bind.madeBy (.ref 606)) = some none := by kernel_rfl
theorem sio_call (P : Params) : specialIn (K P) (.ref 606) "__call__" = some (some (.builtin "type.__call__")) := by kernel_rfl
theorem sio_inst (P : Params) : instIn (K P) (.ref 606) (.type "type") = some true := by kernel_rfl
theorem sio_sub (P : Params) : subIn (K P) (.ref 606) (.ref 606) = some true := by kernel_rfl
theorem sio_init (P : Params) : findIn (K P) (.ref 606) "__init__" = some (some (.ref 376)) := by kernel_rfl
theorem fn_376 (P : Params) : isFn (K P) (.ref 376) = true := by kernel_rfl
theorem under_make (dp un : Nat) (gd : Option (List Code)) (env : Env) (outer : List Env) (C : Addr) (pos : List Value) (kw : List (Str × Value)) :
    (Ar dp un gd env outer).under (.builtin "type.__call__" ⟨.ref C :: pos, kw⟩) = Ar (dp + 1) (un + 1) gd env outer := rfl
theorem of_allLt {d : Addr} : ∀ {l : List (Addr × Obj)}, AllLt d l → ∀ p ∈ l, @LT.lt Nat _ p.1 d
  | [], _ => fun _ h => nomatch h
  | q :: r, h => fun p hp => by
    rcases List.mem_cons.mp hp with rfl | hp
    · exact h.1
    · exact of_allLt h.2 p hp
section
variable {b : Str} {tb : Tok}
local macro_rules | `(tactic| k_enter) => `(tactic| (kp_kind "both"; (refine' kp_both ?k1 ?k2 ?k3 ?k4 ?k5 ?kA ?kF ?kK ?k6 ?k7 ?k8 ?kV ?kX ?kQ ?kM ?kN ?kD ?kR ?kP ?kS ?kT ?kB ?_ ?c2 ?c3 ?c4 ?c5; (case kA => exact rfl); (case kF | kK => first | exact rfl | assumption); (case k1 | k2 | k3 | k4 | k5 => k_asm); (case k6 | k7 => k_is); (case k8 => k_room); (case kV | kX => kp_lit); (case kQ | kM | kN => exact rfl); (case kD => kp_flats); (case kR | kP => exact rfl); (case kS => exact fun _ => rfl); (case kT => exact fun _ _ => rfl); (case kB => exact fun _ _ => locs rfl); (case c5 => decide); (case c2 | c3 | c4 => exact rfl); k_whole; intro C' D' o' g' L' h' tk' l1 l2 lo' hs' fs' FG' F' N' B' X' T'; (try k_lt l1); (try k_lt2 l2); (try dsimp only); (try k_lift B'); (try k_fold))))
local macro_rules | `(tactic| walk_at "call builtin:object.__new__") => `(tactic| (k_here; (with_reducible show wpAny _ _ (call (Value.builtin "object.__new__") _) _ _ _); k_dflt (refine wpAny_call ?_; refine' obj_new_sio ?a ?X ?b ?_; (case a | b | X => k_asm); k_whole; intro x' d' h' F' N' l1 l2; (try k_lt l1); (try k_lt2 l2); (try dsimp only))))
theorem sio_new_spec (B : Below A₀ base outer h₀) (F : Fr h₀ L s.heap m) (X : (K w.params).In h₀) (N : News h₀ L s.heap (news)) (T : Top p lo mean mg mb h₀) (hf : env.frame = some L) (hke : env.scope.kind = .function) (hd : dp + 5 < recursionLimit) (hu : un + 30 < cLine)
    (hret : ∀ (x dx : Addr) (h' : Heap) (tk' : Nat), Fr h₀ L h' m → News h₀ L h' ((x, instObj 606 dx) :: (dx, dictOf [] 0) :: news) → (∀ p ∈ news, @LT.lt Nat _ p.1 dx) → @LT.lt Nat _ dx x → Q (.ref x) { s with heap := h', toks := tk' }) :
    wpAny (model PySem.Challenge.rw_op0211_01.row.toRowW.prog w) (Ar dp un gd env outer) (call (.ref 99) [.ref 606, .str b tb]) Q E s := by
  revert X; k_fill; intro X
  k_steps
  rename News h₀ L _ _ => N9
  rename _ ∧ _ ∧ AllLt _ _ => l9
  rename Fr h₀ L _ m => F9
  refine hret _ _ _ _ F9 (cb_drop N9 ?_) (of_allLt l9.2.2) (by assumption)
  intro q hq
  simp only [List.mem_cons] at hq ⊢
  rcases hq with h | h | h <;> simp [h]
end
end
end
-- W12
section
section
variable {w : World} {p : Program} {lo : List Str} {mean : ExcName → Option Value} {mg mb : Str → Option Value} {dp un : Nat} {gd : Option (List Code)} {A₀ : Around} {env : Env} {outer : List Env} {base h₀ : Heap} {L : Addr} {m : Str → Option Value} {s : Shared} {Q E : Value → Shared → Prop} {news : List (Addr × Obj)}
section
variable {b : Str} {tb : Tok} {io dio : Addr} {rest : List (Addr × Obj)}
theorem sio_init_spec (B : Below A₀ base outer h₀) (F : Fr h₀ L s.heap m) (X : (K w.params).In h₀) (N : News h₀ L s.heap ((io, instObj 606 dio) :: (dio, dictOf [] 0) :: rest)) (T : Top p lo mean mg mb h₀) (hf : env.frame = some L) (hke : env.scope.kind = .function) (hd : dp + 5 < recursionLimit) (hu : un + 50 < cLine) (hb : b.length ≤ 1000) (hne : @LT.lt Nat _ dio io) (hr : ∀ q ∈ rest, q.1 ≠ dio)
    (hret : ∀ (TT : ST) (t : Tok) (h' : Heap) (tk' : Nat), Fr h₀ L h' m → News h₀ L h' ((io, instObj 606 dio) :: (dio, dictOf (sioEs w TT b 0 t) 3) :: rest) → Q .none { s with heap := h', toks := tk' }) :
    wpAny (model PySem.Challenge.rw_op0211_01.row.toRowW.prog w) (Ar dp un gd env outer) (call (.ref 376) [.ref io, .str b tb]) Q E s := by
  revert X; k_fill; intro X
  k_steps
  rename News h₀ L _ _ => N9
  rename Fr h₀ L _ m => F9
  exact hret ⟨_, _, _, _, _⟩ _ _ _ F9 N9
end
end
end
-- W13
section
section
variable {w : World} {p : Program} {lo : List Str} {mean : ExcName → Option Value} {mg mb : Str → Option Value} {dp un : Nat} {gd : Option (List Code)} {A₀ : Around} {env : Env} {outer : List Env} {base h₀ : Heap} {L : Addr} {m : Str → Option Value} {s : Shared} {Q E : Value → Shared → Prop} {news : List (Addr × Obj)}
section
variable {b : Str} {tb : Tok}
theorem call_sio (B : Below A₀ base outer h₀) (F : Fr h₀ L s.heap m) (X : (K w.params).In h₀) (N : News h₀ L s.heap (news)) (T : Top p lo mean mg mb h₀) (hf : env.frame = some L) (hke : env.scope.kind = .function) (hd : dp + 8 < recursionLimit) (hu : un + 60 < cLine) (hb : b.length ≤ 1000)
    (hret : ∀ (io dio : Addr) (TT : ST) (t : Tok) (h' : Heap) (tk' : Nat), Fr h₀ L h' m → News h₀ L h' ((io, instObj 606 dio) :: (dio, dictOf (sioEs w TT b 0 t) 3) :: news) → (∀ p ∈ news, @LT.lt Nat _ p.1 dio) → @LT.lt Nat _ dio io → Q (.ref io) { s with heap := h', toks := tk' }) :
    wpAny (model PySem.Challenge.rw_op0211_01.row.toRowW.prog w) (Ar dp un gd env outer) (call (.ref 606) [.str b tb]) Q E s := by
  have X1 := X.keeps F.keep
  have call := looks_specialIn (M := model PySem.Challenge.rw_op0211_01.row.toRowW.prog w) X1 (sio_call _)
  have typ := looks_instIn (M := model PySem.Challenge.rw_op0211_01.row.toRowW.prog w) X1 (sio_inst _)
  have hm : Looks (model PySem.Challenge.rw_op0211_01.row.toRowW.prog w) s.heap (mroOf (.ref 606)) [.ref 606, .ref 129, .ref 102, .type "object"] := .of_peek X1 (sio_mro _ _)
  have made : Looks (model PySem.Challenge.rw_op0211_01.row.toRowW.prog w) s.heap (Bind.madeBy (.ref 606)) none := .of_peek X1 (sio_made _ _)
  have hC : s.heap.get? 606 = some (o606 w.params) := X1 606 _ (by kernel_rfl)
  refine wpAny_call (codeAny_of_tree ?_)
  show wpAny _ _ (callAny (.ref 606) _) _ _ _
  refine nd_load hC ?_
  show wpAny _ _ (callAny.viaDunder (.ref 606) _) _ _ _
  unfold callAny.viaDunder
  refine wpAny_bind (call.at ?_)
  dsimp only
  rw [tc_bind]
  refine wpAny_bind (wpAny_pure (wpAny_bind (wpAny_pure ?_)))
  refine wpAny_pure (a := Fin.again (.call (.builtin "type.__call__") ⟨.ref 606 :: [.str b tb], []⟩)) (And.intro rfl ?_)
  refine codeAny_call_builtin_at (Code.quiet_builtin _ (by decide +kernel)) entry_typeCall (check_slot tc_kind tc_split typ (tc_args _ _ _) ?_)
  rw [under_make]
  unfold Builtin.«type.__call__»
  repeat (first | simp only [List.isEmpty, Bool.false_eq_true, if_false] | (fail_if_success (with_reducible show wpAny _ _ (getAttr _ _) _ _ _)); lk)
  refine cls_sm F X (sio_typ _) (sio_reads _) (sio_newattr _) (sio_rec _) rfl ?_
  refine wpAny_bind (wpAny_holding (sio_new_spec (s := { s with toks := s.toks + 1 }) B F X N T hf hke (by omega) (by omega) ?_))
  intro io dio h1 tk1 F1 N1 l1 l2
  have I := InstAt.of_news N1 (.head _) (.tail _ (.head _))
  have X2 := X.keeps F1.keep
  unfold isInstance
  refine wpAny_bind (wpAny_bind (I.type.here ((looks_subIn X2 (sio_sub _)).here ?_)))
  simp only [Bool.not_true, Bool.false_eq_true, if_false]
  refine wpAny_bind (wpAny_holding (special_fn (name := Str.ofString "__init__") (args := [.str b tb]) X2 I (sio_init _) (beq_iff_eq.mp (fn_376 _)) ?_))
  refine sio_init_spec (s := { s with heap := h1, toks := tk1 }) B F1 X N1 T hf hke (by omega) (by omega) hb l2 (fun q hq => Nat.ne_of_lt (l1 q hq)) ?_
  intro TT t h2 tk2 F2 N2
  exact wpAny_pure (hret io dio TT t h2 tk2 F2 N2 l1 l2)
end
end
end
-- W8
section
section
variable {w : World} {p : Program} {lo : List Str} {mean : ExcName → Option Value} {mg mb : Str → Option Value} {dp un : Nat} {gd : Option (List Code)} {A₀ : Around} {env : Env} {outer : List Env} {base h₀ : Heap} {L : Addr} {m : Str → Option Value} {s : Shared} {Q E : Value → Shared → Prop} {news : List (Addr × Obj)}
local macro_rules | `(tactic| walk_at "call ref") => `(tactic| (k_here; (with_reducible show wpAny _ _ (call (Value.ref 702) _) _ _ _); k_dflt (refine' get_token_N ?k1 ?k2 ?k3 ?k4 ?k5 ?kF ?kK ?kd ?ku ?e0 ?e1 ?e2 ?e3 ?e4 ?e5 ?e6 ?e7 ?e8 ?e9 ?e10 ?e11 ?e12 ?e13 ?e14 ?hr; walk_at "mine std"; (case e0 | e1 | e2 | e3 | e4 | e5 | e6 => assumption); (case e7 | e8 => k_all); (case e9 | e10 | e11 | e12 | e13 | e14 => assumption); intro pos' t' sv' ln' tl' tx' h' tk' hs' hp' hc' F' N')))
local macro_rules | `(tactic| walk_at "call ref") => `(tactic| (k_here; (with_reducible show wpAny _ _ (call (Value.ref 702) _) _ _ _); k_dflt (refine' get_token_S ?k1 ?k2 ?k3 ?k4 ?k5 ?kF ?kK ?kd ?ku ?e0 ?e1 ?e2 ?e3 ?e4 ?e5 ?e6 ?e7 ?e8 ?e9 ?e10 ?e11 ?e12 ?e13 ?e14 ?e15 ?hr; walk_at "mine std"; (case e0 | e1 | e2 | e3 | e4 | e5 | e6 => assumption); (case e7 | e8 => k_all); (case e9 | e10 | e11 | e12 | e13 | e14 | e15 => assumption); intro x' tr' pos' t' sv' ln' tl' tx' h' tk' hx' hs' hp' hc' F' N')))
local macro_rules | `(tactic| walk_at "leaving ref") => `(tactic| (k_here; k_dflt (refine' leave_raiseS ?k1 ?k0 ?k2 ?k3 ?_; (case k0 => first | assumption | exact Heap.MadeExc.of (by assumption)); (case k2 | k1 => assumption); (case k3 => k_asm); k_whole; intro h' t' S' R' U'; (try dsimp only at S' R' U' ⊢))))
section
variable {io dio lex dlex pb fs : Addr} {b WC : Str} {TT : ST} {TL : LT} {rest : List (Addr × Obj)} {pos : Int} {t : Tok} {sv : Value} {ln : Int} {tl tx : Tok} {x : Str}
theorem next_S (B : Below A₀ base outer h₀) (F : Fr h₀ L s.heap m) (X : (K w.params).In h₀) (N : News h₀ L s.heap (lxNews w TT TL b WC io dio lex dlex pb fs pos t sv (.int ln tl) (.str x tx) rest)) (T : Top p lo mean mg mb h₀) (hf : env.frame = some L) (hke : env.scope.kind = .function)
    (hd : dp + 10 < recursionLimit) (hu : un + 90 < cLine) (hb : b.length ≤ 1000) (hWC : inS 39 WC = false) (hne : @LT.lt Nat _ dio io) (hne2 : @LT.lt Nat _ lex dio) (hne3 : @LT.lt Nat _ dlex lex) (hn4 : @LT.lt Nat _ io pb) (hn5 : @LT.lt Nat _ pb fs) (hr : ∀ q ∈ rest, q.1 ≠ dio) (hr2 : ∀ q ∈ rest, q.1 ≠ dlex)
    {st : LS} {tok cs : List Nat} {st' : LS} {q' : Bool} {tok' cs' : List Nat} (hR : Run st false tok cs st' q' tok' cs')
    (hs : st.is sv) (hx : x.cps.toList = tok) (hl : tok.length + cs.length ≤ 1000) (hp : 0 ≤ pos) (hc : b.cps.toList.drop pos.toNat = cs) (hq : q' = true ∨ tok' ≠ [])
    (hret : ∀ (x' : Str) (tr : Tok) (pos' : Int) (t' : Tok) (sv' : Value) (ln' : Int) (tl' tx' : Tok) (h' : Heap) (tk' : Nat), x'.cps.toList = tok' → st'.is sv' → 0 ≤ pos' → b.cps.toList.drop pos'.toNat = cs' →
        Fr h₀ L h' m → News h₀ L h' (lxNews w TT TL b WC io dio lex dlex pb fs pos' t' sv' (.int ln' tl') (.str (Str.ofString "") tx') rest) → Q (.str x' tr) { s with heap := h', toks := tk' }) :
    wpAny (model PySem.Challenge.rw_op0211_01.row.toRowW.prog w) (Ar dp un gd env outer) (call (.ref 738) [.ref lex]) Q E s := by
  revert X; k_fill; intro X
  k_steps
  all_goals (refine' hret _ _ _ _ _ _ _ _ _ _ ?a ?b ?e ?f ?c ?d; (case d => k_asm); (case c => k_asm); (case a => assumption); (case b => assumption); (case e => assumption); (case f => assumption))
theorem next_N {nm : Str} {sc : Scope} {ad : Addr} {cdv : Value} (B : Below A₀ base outer h₀) (F : Fr h₀ L s.heap m) (X : (K w.params).In h₀) (N : News h₀ L s.heap (lxNews w TT TL b WC io dio lex dlex pb fs pos t sv (.int ln tl) (.str x tx) rest)) (T : Top p lo mean mg mb h₀) (hke : sc.kind = .function)
    (hd : dp + 10 < recursionLimit) (hu : un + 90 < cLine) (hb : b.length ≤ 1000) (hWC : inS 39 WC = false) (hne : @LT.lt Nat _ dio io) (hne2 : @LT.lt Nat _ lex dio) (hne3 : @LT.lt Nat _ dlex lex) (hn4 : @LT.lt Nat _ io pb) (hn5 : @LT.lt Nat _ pb fs) (hr : ∀ q ∈ rest, q.1 ≠ dio) (hr2 : ∀ q ∈ rest, q.1 ≠ dlex)
    {st : LS} {tok cs : List Nat} {st' : LS} {cs' : List Nat} (hR : Run st false tok cs st' false [] cs')
    (hs : st.is sv) (hx : x.cps.toList = tok) (hl : tok.length + cs.length ≤ 1000) (hp : 0 ≤ pos) (hc : b.cps.toList.drop pos.toNat = cs)
    (hE : ∀ (e : Addr) (pos' : Int) (t' : Tok) (sv' : Value) (ln' : Int) (tl' tx' : Tok) (h' g' : Heap) (tk' : Nat), KtsTurn (outer.filterMap (·.frame)) h₀ g' → Below A₀ base outer g' → Fr g' L h' m → News g' L h' (lxNews w TT TL b WC io dio lex dlex pb fs pos' t' sv' (.int ln' tl') (.str (Str.ofString "") tx') rest) → (∃ ob, h'.get? e = some ob ∧ ob.cls = .type "StopIteration") → E (.ref e) { s with heap := h', toks := tk' }) :
    wpAny (model PySem.Challenge.rw_op0211_01.row.toRowW.prog w) (Ar dp un gd (envOf nm sc L ad cdv) outer) (call (.ref 738) [.ref lex]) Q E s := by
  have hf : (envOf nm sc L ad cdv).frame = some L := rfl
  revert X; k_fill; intro X
  k_steps
  obtain ⟨g2, hT2, hB2, hF2, hN2, hob⟩ := stop_ground (by assumption) (by assumption) B (by assumption)
  exact hE _ _ _ _ _ _ _ _ _ _ hT2 hB2 hF2 hN2 hob
end
end
end
-- W9
section
section
variable {w : World} {p : Program} {lo : List Str} {mean : ExcName → Option Value} {mg mb : Str → Option Value} {dp un : Nat} {gd : Option (List Code)} {A₀ : Around} {env : Env} {outer : List Env} {base h₀ : Heap} {L : Addr} {m : Str → Option Value} {s : Shared} {Q E : Value → Shared → Prop} {news : List (Addr × Obj)}
inductive Toks : LS → List Nat → List (List Nat) → Prop
  | nil {st cs st' cs'} : Run st false [] cs st' false [] cs' → Toks st cs []
  | cons {st cs st' q tok cs' l} : Run st false [] cs st' q tok cs' → (q = true ∨ tok ≠ []) → Toks st' cs' l → Toks st cs (tok :: l)
def isTok (v : Value) (l : List Nat) : Prop := ∃ x t, v = .str x t ∧ x.cps.toList = l
inductive TV : List Value → List (List Nat) → Prop
  | nil : TV [] []
  | cons {v l vs ls} : isTok v l → TV vs ls → TV (v :: vs) (l :: ls)
theorem TV.length {vs : List Value} {ls : List (List Nat)} (h : TV vs ls) : vs.length = ls.length := by
  induction h with
  | nil => rfl
  | cons _ _ ih => simp [ih]
abbrev lsObj (acc : Array Value) (c : Nat) : Obj := { cls := .type "list", data := .seq acc c }
theorem lex_next (P : Params) : findIn (K P) (.ref 741) "__next__" = some (some (.ref 738)) := by kernel_rfl
theorem lex_iter (P : Params) : findIn (K P) (.ref 741) "__iter__" = some (some (.ref 731)) := by kernel_rfl
theorem fn_738 (P : Params) : isFn (K P) (.ref 738) = true := by kernel_rfl
theorem fn_731 (P : Params) : isFn (K P) (.ref 731) = true := by kernel_rfl
theorem no_len (P : Params) : findIn (K P) (.ref 741) "__len__" = some none := by kernel_rfl
theorem no_hint (P : Params) : findIn (K P) (.ref 741) "__length_hint__" = some none := by kernel_rfl
theorem run_len {st q tok cs st' q' tok' cs'} (h : Run st q tok cs st' q' tok' cs') : cs'.length ≤ cs.length := by
  induction h <;> simp_all <;> omega
section
variable {io dio lex dlex pb fs S : Addr} {b WC : Str} {TT : ST} {TL : LT} {rest : List (Addr × Obj)} {nm : Str} {sc : Scope} {ad : Addr} {cdv : Value} {R : Result → Shared → Prop}
theorem list_loop (hke : sc.kind = .function)
    (hd : dp + 10 < recursionLimit) (hu : un + 91 < cLine) (hb : b.length ≤ 1000) (hWC : inS 39 WC = false) (hne : @LT.lt Nat _ dio io) (hne2 : @LT.lt Nat _ lex dio) (hne3 : @LT.lt Nat _ dlex lex) (hn4 : @LT.lt Nat _ io pb) (hn5 : @LT.lt Nat _ pb fs) (hn6 : @LT.lt Nat _ fs S) (hr : ∀ q ∈ rest, q.1 ≠ dio) (hr2 : ∀ q ∈ rest, q.1 ≠ dlex) (hr3 : ∀ q ∈ rest, q.1 ≠ S)
    (B : Below A₀ base outer h₀) (X : (K w.params).In h₀) (T : Top p lo mean mg mb h₀) {st : LS} {cs : List Nat} {l : List (List Nat)} (hT : Toks st cs l) :
    ∀ (s : Shared) (acc : Array Value) (c : Nat) (pos : Int) (t : Tok) (sv : Value) (ln : Int) (tl tx : Tok), acc.size + l.length ≤ 1000 → st.is sv → cs.length ≤ 1000 → 0 ≤ pos → b.cps.toList.drop pos.toNat = cs →
      Fr h₀ L s.heap m → News h₀ L s.heap (lxNews w TT TL b WC io dio lex dlex pb fs pos t sv (.int ln tl) (.str (Str.ofString "") tx) ((S, lsObj acc c) :: rest)) →
      (∀ (vs : List Value) (c' : Nat) (h' g' : Heap) (tk' : Nat), TV vs l → KtsTurn (outer.filterMap (·.frame)) h₀ g' → Below A₀ base outer g' → Fr g' L h' m → News g' L h' ((S, lsObj (acc ++ vs.toArray) c') :: rest) → R (.ok (.ret .none)) { s with heap := h', toks := tk' }) →
      codeAny (model PySem.Challenge.rw_op0211_01.row.toRowW.prog w) (Ar dp un gd (envOf nm sc L ad cdv) outer) (.builtin "list.extend.loop" ⟨[.ref S, .ref lex, .none], []⟩) R s := by
  have hrS : ∀ (a : Addr) (o : Obj), a ≠ S → (∀ q ∈ rest, q.1 ≠ a) → ∀ q ∈ (S, o) :: rest, q.1 ≠ a := by
    intro a o h1 h2 q hq
    rcases List.mem_cons.mp hq with rfl | hq
    · exact Ne.symm h1
    · exact h2 q hq
  have d1 : dio ≠ S := by show ¬ (@Eq Nat dio S); omega
  have d2 : dlex ≠ S := by show ¬ (@Eq Nat dlex S); omega
  induction hT with
  | nil hR =>
    intro s acc c pos t sv ln tl tx hz hs hl hp hc F N hret
    refine codeAny_builtin PySem.F.entry_extend_loop ?_
    rw [Around.under_plainId PySem.F.plain_extend_loop _]
    show wpAny _ (Ar dp (un + 1) gd (envOf nm sc L ad cdv) outer) (pyNext (.ref lex) >>= _) _ _ s
    refine wpAny_bind (owit_next (C := 741) (f := 738) F X (InstAt.of_news N (.tail _ (.tail _ (.head _))) (.tail _ (.tail _ (.tail _ (.head _))))) (lex_next _) (fn_738 _) ?_)
    refine next_N B F X N T hke hd (by omega) hb hWC hne hne2 hne3 hn4 hn5 (hrS _ _ d1 hr) (hrS _ _ d2 hr2) hR hs (by decide +kernel) (by simpa using hl) hp hc ?_
    intro e pos' t' sv' ln' tl' tx' h' g' tk' hT' hB' hF' hN' hob
    unfold OwitStop
    refine wpAny_isInstance (T := "StopIteration") (b := true) (show ∃ o, h'.get? e = some o ∧ o.cls = .type "StopIteration" from hob) (by rw [isSubtype_type]; kernel_rfl) ?_
    show (if true = true then _ else _)
    rw [if_pos rfl]
    refine wpAny_pure ?_
    refine hret [] c h' g' tk' .nil hT' hB' hF' ?_
    have e0 : acc ++ ([] : List Value).toArray = acc := by simp
    rw [e0]
    exact cb_drop hN' fun q hq => .tail _ (.tail _ (.tail _ (.tail _ (.tail _ (.tail _ hq)))))
  | @cons st cs st' q tok cs' l hR hq hT ih =>
    intro s acc c pos t sv ln tl tx hz hs hl hp hc F N hret
    refine codeAny_builtin PySem.F.entry_extend_loop ?_
    rw [Around.under_plainId PySem.F.plain_extend_loop _]
    show wpAny _ (Ar dp (un + 1) gd (envOf nm sc L ad cdv) outer) (pyNext (.ref lex) >>= _) _ _ s
    refine wpAny_bind (owit_next (C := 741) (f := 738) F X (InstAt.of_news N (.tail _ (.tail _ (.head _))) (.tail _ (.tail _ (.tail _ (.head _))))) (lex_next _) (fn_738 _) ?_)
    refine next_S B F X N T rfl hke hd (by omega) hb hWC hne hne2 hne3 hn4 hn5 (hrS _ _ d1 hr) (hrS _ _ d2 hr2) hR hs (by decide +kernel) (by simpa using hl) hp hc hq ?_
    intro x' tr pos' t' sv' ln' tl' tx' h' tk' hx' hs' hp' hc' F' N'
    show wpAny _ _ (updateSeq S (·.push (.str x' tr)) >>= _) _ _ _
    have hS := (N' (S, lsObj acc c) (.tail _ (.tail _ (.tail _ (.tail _ (.tail _ (.tail _ (.head _)))))))).1
    have N1 : News h₀ L h' ((S, lsObj acc c) :: (io, instObj 606 dio) :: (dio, dictOf (sioEs w TT b pos' t') 3) :: (lex, instObj 741 dlex) :: (dlex, dictOf (lexEs w TL WC io pb fs sv' (.int ln' tl') (.str (Str.ofString "") tx')) 19) :: (pb, dqObj) :: (fs, dqObj) :: rest) := by
      refine cb_drop N' ?_
      intro q hq
      simp only [lxNews, List.mem_cons] at hq ⊢
      rcases hq with h | h | h | h | h | h | h | h <;> simp [h]
    have hne' : ∀ q ∈ (io, instObj 606 dio) :: (dio, dictOf (sioEs w TT b pos' t') 3) :: (lex, instObj 741 dlex) :: (dlex, dictOf (lexEs w TL WC io pb fs sv' (.int ln' tl') (.str (Str.ofString "") tx')) 19) :: (pb, dqObj) :: (fs, dqObj) :: rest, q.1 ≠ S := by
      intro q hq
      simp only [List.mem_cons] at hq
      rcases hq with rfl | rfl | rfl | rfl | rfl | rfl | h
      · show ¬ (@Eq Nat io S); omega
      · show ¬ (@Eq Nat dio S); omega
      · show ¬ (@Eq Nat lex S); omega
      · show ¬ (@Eq Nat dlex S); omega
      · show ¬ (@Eq Nat pb S); omega
      · show ¬ (@Eq Nat fs S); omega
      · exact hr3 q h
    have hzz : acc.size ≤ 1000 := by omega
    refine wpAny_bind (wpAny_updateSeq hS rfl ?_ (by rw [sizeLine_eq]; omega) (by rw [sizeLine_eq]; simp; omega))
    refine wpAny_pure ⟨plainId_quiet PySem.F.plain_extend_loop _, ?_⟩
    have F2 := Fr.upd F' (Obj.mapSeq (·.push (.str x' tr))) (N1 _ (.head _)).2.1 (N1 _ (.head _)).2.2
    have N2 := News.upd N1 (Obj.mapSeq (·.push (.str x' tr))) hne'
    refine ih _ (acc.push (.str x' tr)) (if (acc.push (.str x' tr)).size == acc.size then c else c + 1) pos' t' sv' ln' tl' tx' (by simp at hz ⊢; omega) hs' (by have := run_len hR; omega) hp' hc' F2 ?_ ?_
    · refine cb_drop N2 ?_
      intro q hq
      simp only [lxNews, List.mem_cons] at hq ⊢
      rcases hq with h | h | h | h | h | h | h | h <;> simp [h]
      exact .inl (by simp [Obj.mapSeq])
    · intro vs c' h'' g' tk'' hV hT' hB' hF' hN'
      refine hret (.str x' tr :: vs) c' h'' g' tk'' (.cons ⟨x', tr, rfl, hx'⟩ hV) hT' hB' hF' ?_
      have e1 : acc ++ (Value.str x' tr :: vs).toArray = acc.push (.str x' tr) ++ vs.toArray := by
        apply Array.ext'; simp
      rw [e1]
      exact hN'
end
end
end
-- W10
section
section
variable {w : World} {p : Program} {lo : List Str} {mean : ExcName → Option Value} {mg mb : Str → Option Value} {dp un : Nat} {gd : Option (List Code)} {A₀ : Around} {env : Env} {outer : List Env} {base h₀ : Heap} {L : Addr} {m : Str → Option Value} {s : Shared} {Q E : Value → Shared → Prop} {news : List (Addr × Obj)}
theorem iter_spec {lex dlex : Addr} {o : Obj} {rest : List (Addr × Obj)} (B : Below A₀ base outer h₀) (F : Fr h₀ L s.heap m) (X : (K w.params).In h₀) (N : News h₀ L s.heap ((lex, instObj 741 dlex) :: (dlex, o) :: rest)) (T : Top p lo mean mg mb h₀) (hf : env.frame = some L) (hke : env.scope.kind = .function)
    (hd : dp + 10 < recursionLimit) (hu : un + 10 < cLine)
    (hret : ∀ (h' : Heap) (tk' : Nat), Fr h₀ L h' m → News h₀ L h' ((lex, instObj 741 dlex) :: (dlex, o) :: rest) → Q (.ref lex) { s with heap := h', toks := tk' }) :
    wpAny (model PySem.Challenge.rw_op0211_01.row.toRowW.prog w) (Ar dp un gd env outer) (call (.ref 731) [.ref lex]) Q E s := by
  revert X; k_fill; intro X
  k_steps
  all_goals (refine' hret _ _ ?c ?d; (case d => k_asm); (case c => k_asm))
section
variable {io dio lex dlex pb fs : Addr} {b WC : Str} {TT : ST} {TL : LT} {rest : List (Addr × Obj)} {nm : Str} {sc : Scope} {ad : Addr} {cdv : Value} {R : Result → Shared → Prop}
theorem list_lex (hke : sc.kind = .function)
    (hd : dp + 10 < recursionLimit) (hu : un + 100 < cLine) (hb : b.length ≤ 1000) (hWC : inS 39 WC = false) (hne : @LT.lt Nat _ dio io) (hne2 : @LT.lt Nat _ lex dio) (hne3 : @LT.lt Nat _ dlex lex) (hn4 : @LT.lt Nat _ io pb) (hn5 : @LT.lt Nat _ pb fs) (hr : ∀ q ∈ rest, q.1 ≠ dio) (hr2 : ∀ q ∈ rest, q.1 ≠ dlex)
    (B : Below A₀ base outer h₀) (X : (K w.params).In h₀) (T : Top p lo mean mg mb h₀) {st : LS} {cs : List Nat} {l : List (List Nat)} (hT : Toks st cs l)
    {pos : Int} {t : Tok} {sv : Value} {ln : Int} {tl tx : Tok} (hz : l.length ≤ 1000) (hs : st.is sv) (hl : cs.length ≤ 1000) (hp : 0 ≤ pos) (hc : b.cps.toList.drop pos.toNat = cs)
    (F : Fr h₀ L s.heap m) (N : News h₀ L s.heap (lxNews w TT TL b WC io dio lex dlex pb fs pos t sv (.int ln tl) (.str (Str.ofString "") tx) rest))
    (hret : ∀ (S : Addr) (vs : List Value) (c' : Nat) (h' g' : Heap) (tk' : Nat), TV vs l → KtsTurn (outer.filterMap (·.frame)) h₀ g' → Below A₀ base outer g' → Fr g' L h' m → News g' L h' ((S, lsObj vs.toArray c') :: rest) → (∀ q ∈ rest, @LT.lt Nat _ q.1 S) → Q (.ref S) { s with heap := h', toks := tk' }) :
    wpAny (model PySem.Challenge.rw_op0211_01.row.toRowW.prog w) (Ar dp un gd (envOf nm sc L ad cdv) outer) (call (.type "list") [.ref lex]) Q E s := by
  refine callType_codes (Q₁ := fun obj s₁ => obj = .ref s.heap.objs.size ∧ s₁ = { s with heap := s.heap.push (lsObj #[] 0) }) PySem.F.called_list (PySem.F.typeCall_list_1 _) PySem.F.entry_list_init
    (code_list_new _ ⟨rfl, rfl⟩) fun obj s₁ h₁ => ?_
  obtain ⟨rfl, rfl⟩ := h₁
  generalize hSe : s.heap.objs.size = S
  have hS : (s.heap.push (lsObj #[] 0)).get? S = some (lsObj #[] 0) := by rw [← hSe]; exact Heap.get?_push_size _ rfl
  have kp : ∀ b o, s.heap.get? b = some o → (s.heap.push (lsObj #[] 0)).get? b = some o := fun b o e => Heap.get?_push_of_some _ e
  have F1 := F.keeps kp
  have N1 : News h₀ L (s.heap.push (lsObj #[] 0)) ((S, lsObj #[] 0) :: lxNews w TT TL b WC io dio lex dlex pb fs pos t sv (.int ln tl) (.str (Str.ofString "") tx) rest) := by
    have := news_pushed F N kp (o := lsObj #[] 0) (Heap.get?_push_size _ rfl) rfl
    rw [hSe] at this
    exact this
  have hlt : ∀ q ∈ lxNews w TT TL b WC io dio lex dlex pb fs pos t sv (.int ln tl) (.str (Str.ofString "") tx) rest, @LT.lt Nat _ q.1 S := by
    intro q hq
    rw [← hSe]; exact Heap.lt_size (N q hq).1
  have hne' : ∀ q ∈ lxNews w TT TL b WC io dio lex dlex pb fs pos t sv (.int ln tl) (.str (Str.ofString "") tx) rest, q.1 ≠ S := fun q hq => Nat.ne_of_lt (hlt q hq)
  refine ⟨⟨_, hS, rfl⟩, PySem.F.args_list_init_2 _ _, ?_⟩
  show wpAny _ _ (do let old ← Builtin.List.listItems (.ref S); Builtin.List.listUpdate (.ref S) (fun _ => #[]); letGo old.toList.reverse; Builtin.List.listExtendWith (.ref S) (.ref lex) .none) _ _ _
  refine wpAny_bind ?_
  unfold Builtin.List.listItems
  refine wpAny_bind (wpAny_seqItems hS rfl (wpAny_pure ?_))
  show wpAny _ _ (updateSeq S (fun _ => #[]) >>= fun _ => letGo (#[] : Array Value).toList.reverse >>= fun _ => Builtin.List.listExtendWith (.ref S) (.ref lex) .none) _ _ _
  refine wpAny_bind (wpAny_updateSeq hS rfl ?_)
  have F2 := Fr.upd F1 (Obj.mapSeq (fun _ => (#[] : Array Value))) (N1 _ (.head _)).2.1 (N1 _ (.head _)).2.2
  have N2 := News.upd N1 (Obj.mapSeq (fun _ => (#[] : Array Value))) hne'
  refine wpAny_bind (wpAny_letGo ?_)
  have I := InstAt.of_news N2 (.tail _ (.tail _ (.tail _ (.head _)))) (.tail _ (.tail _ (.tail _ (.tail _ (.head _)))))
  unfold Builtin.List.listExtendWith
  refine wpAny_bind (I.type.here ?_)
  have hSl : S ≠ lex := Ne.symm (hne' (lex, instObj 741 dlex) (.tail _ (.tail _ (.head _))))
  have h1 : Builtin.List.listSameRef (.ref S) (.ref lex) = false := by simp [Builtin.List.listSameRef, hSl]
  have h2 : (Value.ref 741 == Value.type "list") = false := rfl
  have h3 : (Value.ref 741 == Value.type "tuple") = false := rfl
  simp only [h1, h2, h3, Bool.or_false, Bool.false_eq_true, if_false]
  refine wpAny_bind (owit_iter (C := 741) (f := 731) F2 X I (lex_iter _) (fn_731 _) ?_)
  have N3 : News h₀ L ((s.heap.push (lsObj #[] 0)).update S (Obj.mapSeq (fun _ => (#[] : Array Value)))) ((lex, instObj 741 dlex) :: (dlex, dictOf (lexEs w TL WC io pb fs sv (.int ln tl) (.str (Str.ofString "") tx)) 19) :: (S, lsObj #[] 0) :: (io, instObj 606 dio) :: (dio, dictOf (sioEs w TT b pos t) 3) :: (pb, dqObj) :: (fs, dqObj) :: rest) := by
    refine cb_drop N2 ?_
    intro q hq
    simp only [lxNews, List.mem_cons] at hq ⊢
    rcases hq with h | h | h | h | h | h | h | h <;> simp [h]
    exact .inl rfl
  refine iter_spec (dp := dp) (un := un + 1 + 1) (env := envOf nm sc L ad cdv) (s := { s with heap := (s.heap.push (lsObj #[] 0)).update S (Obj.mapSeq (fun _ => (#[] : Array Value))) }) B F2 X N3 T rfl hke hd (by omega) ?_
  intro h4 tk4 F4 N4
  have N5 : News h₀ L h4 ((S, lsObj #[] 0) :: lxNews w TT TL b WC io dio lex dlex pb fs pos t sv (.int ln tl) (.str (Str.ofString "") tx) rest) := by
    refine cb_drop N4 ?_
    intro q hq
    simp only [lxNews, List.mem_cons] at hq ⊢
    rcases hq with h | h | h | h | h | h | h | h <;> simp [h]
  have I5 := InstAt.of_news N5 (.tail _ (.tail _ (.tail _ (.head _)))) (.tail _ (.tail _ (.tail _ (.tail _ (.head _)))))
  refine owit_it F4 X I5 (lex_next _) ?_
  refine wpAny_bind (wpAny_holding ?_)
  unfold Builtin.List.listLengthHint
  refine wpAny_bind (wpAny_bind (I5.type.here ((looks_findIn (X.keeps F4.keep) (no_len _)).here ?_)))
  show wpAny _ _ (specialOf (Value.ref lex) (Str.ofString "__length_hint__") >>= _) _ _ _
  refine wpAny_bind (wpAny_bind (I5.type.here ((looks_findIn (X.keeps F4.keep) (no_hint _)).here ?_)))
  refine wpAny_pure ?_
  show wpAny _ _ (rule "list.extend.makes-room" >>= fun _ => Builtin.List.listTouch (.ref S) >>= fun _ =>
    again (.builtin "list.extend.loop" ⟨[.ref S, .ref lex, .none], []⟩)) _ _ _
  refine wpAny_bind (wpAny_rule ?_)
  refine wpAny_bind ?_
  show wpAny _ _ (updateSeq S (·.push .none) >>= fun _ => updateSeq S (·.pop)) _ _ _
  refine wpAny_bind (wpAny_updateSeq (N5 _ (.head _)).1 rfl ?_)
  have F6 := Fr.upd F4 (Obj.mapSeq (·.push Value.none)) (N5 _ (.head _)).2.1 (N5 _ (.head _)).2.2
  have N6 := News.upd N5 (Obj.mapSeq (·.push Value.none)) hne'
  refine wpAny_updateSeq (hz := by seq_fits) (N6 _ (.head _)).1 rfl ?_
  have F7 := Fr.upd F6 (Obj.mapSeq (·.pop)) (N6 _ (.head _)).2.1 (N6 _ (.head _)).2.2
  have N7 := News.upd N6 (Obj.mapSeq (·.pop)) hne'
  refine wpAny_pure ⟨plainId_quiet PySem.F.plain_extend_loop _, ?_⟩
  have hn6 : @LT.lt Nat _ fs S := hlt (fs, dqObj) (.tail _ (.tail _ (.tail _ (.tail _ (.tail _ (.head _))))))
  refine list_loop (TT := TT) (TL := TL) (dp := dp) (un := un + 1) (gd := gd) (rest := rest) hke hd (by omega) hb hWC hne hne2 hne3 hn4 hn5 hn6 hr hr2 ?_ B X T hT _ #[] 2 pos t sv ln tl tx (by simpa using hz) hs hl hp hc F7 ?_ ?_
  · intro q hq
    exact hne' q (.tail _ (.tail _ (.tail _ (.tail _ (.tail _ (.tail _ hq))))))
  · refine cb_drop N7 ?_
    intro q hq
    simp only [lxNews, List.mem_cons] at hq ⊢
    rcases hq with h | h | h | h | h | h | h | h <;> simp [h]
    exact .inl rfl
  · intro vs c' h' g' tk' hV hT' hB' hF' hN'
    refine ⟨rfl, hret S vs c' h' g' tk' hV hT' hB' hF' (by simpa using hN') ?_⟩
    intro q hq
    exact hlt q (.tail _ (.tail _ (.tail _ (.tail _ (.tail _ (.tail _ hq))))))
end
end
end
-- W14
section
section
variable {w : World} {p : Program} {lo : List Str} {mean : ExcName → Option Value} {mg mb : Str → Option Value} {dp un : Nat} {gd : Option (List Code)} {A₀ : Around} {env : Env} {outer : List Env} {base h₀ : Heap} {L : Addr} {m : Str → Option Value} {s : Shared} {Q E : Value → Shared → Prop} {news : List (Addr × Obj)}
local macro_rules | `(tactic| walk_at "call ref") => `(tactic| (k_here; (with_reducible show wpAny _ _ (call (Value.ref 606) _) _ _ _); k_dflt (refine' call_sio ?k1 ?k2 ?k3 ?k4 ?k5 ?kF ?kK ?kd ?ku ?e0 ?hr; walk_at "mine std"; (case e0 => assumption); intro io' dio' TT' t' h' tk' F' N' l1 l2; (try k_lt l1); (try k_lt2 l2); (try dsimp only))))
local macro_rules | `(tactic| walk_at "call type:collections.deque") => `(tactic| (k_here; k_dflt (refine' call_deque ?a ?b ?_; (case a | b => k_asm); k_whole; intro D' h' F' N' hD'; (try k_lt hD'); (try dsimp only))))
abbrev lexE0 (w : World) (T : LT) (WC : Str) (io pb fs : Addr) (st ln tk : Value) : List DictEntry :=
  [⟨PyData.keyHash w.params (Str.ofString "instream"), .str (Str.ofString "instream") T.k0, .ref io⟩,
   ⟨PyData.keyHash w.params (Str.ofString "infile"), .str (Str.ofString "infile") T.k1, .none⟩,
   ⟨PyData.keyHash w.params (Str.ofString "posix"), .str (Str.ofString "posix") T.k2, .bool true⟩,
   ⟨PyData.keyHash w.params (Str.ofString "eof"), .str (Str.ofString "eof") T.k3, .none⟩,
   ⟨PyData.keyHash w.params (Str.ofString "commenters"), .str (Str.ofString "commenters") T.k4, .str (Str.ofString "#") T.v4⟩,
   ⟨PyData.keyHash w.params (Str.ofString "wordchars"), .str (Str.ofString "wordchars") T.k5, .str WC T.v5⟩,
   ⟨PyData.keyHash w.params (Str.ofString "whitespace"), .str (Str.ofString "whitespace") T.k6, .str (Str.ofString " \t\r\n") T.v6⟩,
   ⟨PyData.keyHash w.params (Str.ofString "whitespace_split"), .str (Str.ofString "whitespace_split") T.k7, .bool false⟩,
   ⟨PyData.keyHash w.params (Str.ofString "quotes"), .str (Str.ofString "quotes") T.k8, .str (Str.ofString "'\"") T.v8⟩,
   ⟨PyData.keyHash w.params (Str.ofString "escape"), .str (Str.ofString "escape") T.k9, .str (Str.ofString "\\") T.v9⟩,
   ⟨PyData.keyHash w.params (Str.ofString "escapedquotes"), .str (Str.ofString "escapedquotes") T.k10, .str (Str.ofString "\"") T.v10⟩,
   ⟨PyData.keyHash w.params (Str.ofString "state"), .str (Str.ofString "state") T.k11, st⟩,
   ⟨PyData.keyHash w.params (Str.ofString "pushback"), .str (Str.ofString "pushback") T.k12, .ref pb⟩,
   ⟨PyData.keyHash w.params (Str.ofString "lineno"), .str (Str.ofString "lineno") T.k13, ln⟩,
   ⟨PyData.keyHash w.params (Str.ofString "debug"), .str (Str.ofString "debug") T.k14, .int 0 T.v14⟩,
   ⟨PyData.keyHash w.params (Str.ofString "token"), .str (Str.ofString "token") T.k15, tk⟩,
   ⟨PyData.keyHash w.params (Str.ofString "filestack"), .str (Str.ofString "filestack") T.k16, .ref fs⟩,
   ⟨PyData.keyHash w.params (Str.ofString "source"), .str (Str.ofString "source") T.k17, .none⟩,
   ⟨PyData.keyHash w.params (Str.ofString "_punctuation_chars"), .str (Str.ofString "_punctuation_chars") T.k18, .str (Str.ofString "") T.v18⟩]
abbrev WC0 : Str := Str.ofString "abcdfeghijklmnopqrstuvwxyzABCDEFGHIJKLMNOPQRSTUVWXYZ0123456789_ßàáâãäåæçèéêëìíîïðñòóôõöøùúûüýþÿÀÁÂÃÄÅÆÇÈÉÊËÌÍÎÏÐÑÒÓÔÕÖØÙÚÛÜÝÞ"
section
variable {b : Str} {tb : Tok} {rest : List (Addr × Obj)} {lex dlex : Addr} {R : Result → Shared → Prop}
theorem lex_init (B : Below A₀ base outer h₀) (F : Fr h₀ L s.heap m) (X : (K w.params).In h₀) (N : News h₀ L s.heap ((lex, instObj 741 dlex) :: (dlex, dictOf [] 0) :: rest)) (T : Top p lo mean mg mb h₀) (hf : env.frame = some L) (hke : env.scope.kind = .function) (hd : dp + 12 < recursionLimit) (hu : un + 100 < cLine) (hb : b.length ≤ 1000) (hne3 : @LT.lt Nat _ dlex lex) (hr : ∀ q ∈ rest, @LT.lt Nat _ q.1 dlex)
    (hret : ∀ (io dio pb fs : Addr) (TT : ST) (TL : LT) (t ts ln' tt : Tok) (h' : Heap) (tk' : Nat), Fr h₀ L h' m → News h₀ L h' ((fs, dqObj) :: (pb, dqObj) :: (io, instObj 606 dio) :: (dio, dictOf (sioEs w TT b 0 t) 3) :: (lex, instObj 741 dlex) :: (dlex, dictOf (lexE0 w TL WC0 io pb fs (.str (Str.ofString " ") ts) (.int 1 ln') (.str (Str.ofString "") tt)) 19) :: rest) →
      @LT.lt Nat _ lex dio → @LT.lt Nat _ dio io → @LT.lt Nat _ io pb → @LT.lt Nat _ pb fs → R (.ok (.ret .none)) { s with heap := h', toks := tk' }) :
    codeAny (model PySem.Challenge.rw_op0211_01.row.toRowW.prog w) (Ar dp un gd env outer) (.call (.ref 665) ⟨[.ref lex, .str b tb], [(Str.ofString "posix", .bool true)]⟩) R s := by
  revert X; k_fill; intro X
  k_enter
  k_steps
  rename News h₀ L _ _ => N9
  rename Fr h₀ L _ m => F9
  refine hret _ _ _ _ _ ⟨_, _, _, _, _, _, _, _, _, _, _, _, _, _, _, _, _, _, _, _, _, _, _, _, _, _, _⟩ _ _ _ _ _ _ F9 N9 ?_ ?_ ?_ ?_
  all_goals first | assumption | exact And.left (by assumption)
end
section
variable {b : Str} {tb : Tok} {rest : List (Addr × Obj)}
theorem lex_makes (P : Params) : makesIn (K P) 741 = true := by kernel_rfl
theorem lex_initf (P : Params) : findIn (K P) (.ref 741) "__init__" = some (some (.ref 665)) := by kernel_rfl
theorem fn_665 (P : Params) : isFn (K P) (.ref 665) = true := by kernel_rfl
theorem call_lex (B : Below A₀ base outer h₀) (F : Fr h₀ L s.heap m) (X : (K w.params).In h₀) (N : News h₀ L s.heap (rest)) (T : Top p lo mean mg mb h₀) (hf : env.frame = some L) (hke : env.scope.kind = .function) (hd : dp + 13 < recursionLimit) (hu : un + 110 < cLine) (hb : b.length ≤ 1000)
    (hret : ∀ (lex dlex io dio pb fs : Addr) (TT : ST) (TL : LT) (t ts ln' tt : Tok) (h' : Heap) (tk' : Nat), Fr h₀ L h' m → News h₀ L h' ((fs, dqObj) :: (pb, dqObj) :: (io, instObj 606 dio) :: (dio, dictOf (sioEs w TT b 0 t) 3) :: (lex, instObj 741 dlex) :: (dlex, dictOf (lexE0 w TL WC0 io pb fs (.str (Str.ofString " ") ts) (.int 1 ln') (.str (Str.ofString "") tt)) 19) :: rest) →
      (∀ q ∈ rest, @LT.lt Nat _ q.1 dlex) → @LT.lt Nat _ dlex lex → @LT.lt Nat _ lex dio → @LT.lt Nat _ dio io → @LT.lt Nat _ io pb → @LT.lt Nat _ pb fs → Q (.ref lex) { s with heap := h', toks := tk' }) :
    wpAny (model PySem.Challenge.rw_op0211_01.row.toRowW.prog w) (Ar dp un gd env outer) (call (.ref 741) [.str b tb] [(Str.ofString "posix", .bool true)]) Q E s := by
  refine call_cls F X N (lex_makes _) (lex_initf _) (fn_665 _) fun lex dlex h1 F1 N1 l1 l2 => ?_
  rw [under_make]
  refine lex_init (s := { s with heap := h1 }) B F1 X N1 T hf hke (by omega) (by omega) hb l2 l1 ?_
  intro io dio pb fs TT TL t ts ln' tt h' tk' F' N' a1 a2 a3 a4
  exact ⟨rfl, hret lex dlex io dio pb fs TT TL t ts ln' tt h' tk' F' N' l1 l2 a1 a2 a3 a4⟩
end
end
end
-- W15
section
section
variable {w : World} {p : Program} {lo : List Str} {mean : ExcName → Option Value} {mg mb : Str → Option Value} {dp un : Nat} {gd : Option (List Code)} {A₀ : Around} {env : Env} {outer : List Env} {base h₀ : Heap} {L : Addr} {m : Str → Option Value} {s : Shared} {Q E : Value → Shared → Prop} {news : List (Addr × Obj)}
theorem lx_perm {h₀ h : Heap} {L fs pb io dio lex dlex : Addr} {a b c d e f : Obj} {rest : List (Addr × Obj)} (N : News h₀ L h ((fs, a) :: (pb, b) :: (io, c) :: (dio, d) :: (lex, e) :: (dlex, f) :: rest)) : News h₀ L h ((io, c) :: (dio, d) :: (lex, e) :: (dlex, f) :: (pb, b) :: (fs, a) :: rest) := by
  refine cb_drop N ?_
  intro q hq
  simp only [List.mem_cons] at hq ⊢
  rcases hq with h | h | h | h | h | h | h <;> simp [h]
theorem wc0_ok : inS 39 WC0 = false := by decide +kernel
local macro_rules | `(tactic| walk_at "call ref") => `(tactic| (k_here; (with_reducible show wpAny _ _ (call (Value.ref 741) _ _) _ _ _); k_dflt (refine' call_lex ?k1 ?k2 ?k3 ?k4 ?k5 ?kF ?kK ?kd ?ku ?hb ?hr; (case kF | kK => first | exact rfl | assumption); (case k1 | k2 | k3 | k4 | k5 => k_asm); (case kd => ktr_room); (case ku => ktr_units); (case hb => assumption); intro lex' dlex' io' dio' pb' fs' TT' TL' t' ts' ln' tt' h' tk' F' N' l1 l2 l3 l4 l5 l6; (try k_lt l1); (try dsimp only))))
section
variable {b : Str} {tb : Tok} {rest : List (Addr × Obj)} {cn : Str} {cs : Scope} {a : Addr} {ccd : Value} {l : List (List Nat)}
theorem split_spec (B : Below A₀ base outer h₀) (F : Fr h₀ L s.heap m) (X : (K w.params).In h₀) (N : News h₀ L s.heap rest) (T : Top p lo mean mg mb h₀) (XB : (K w.params).In base) (TB : Top p lo mean mg mb base) (D : KtsDicts (outer.filterMap (·.frame)) h₀) (hck : cs.kind = .function)
    (hd : dp + 20 < recursionLimit) (hu : un + 200 < cLine) (hb : b.length ≤ 1000) (hT : Toks .sp b.cps.toList l) (hl : l.length ≤ 1000)
    (hret : ∀ (S : Addr) (vs : List Value) (c' : Nat) (h' h₀' : Heap) (tk' : Nat), TV vs l → KtsTurn (outer.filterMap (·.frame)) h₀ h₀' → Fr h₀' L h' m → News h₀' L h' ((S, lsObj vs.toArray c') :: rest) → (∀ q ∈ rest, @LT.lt Nat _ q.1 S) →
      Below A₀ base outer h₀' → (K w.params).In h₀' → Top p lo mean mg mb h₀' → KtsDicts (outer.filterMap (·.frame)) h₀' → Q (.ref S) { s with heap := h', toks := tk' }) :
    wpAny (model PySem.Challenge.rw_op0211_01.row.toRowW.prog w) (Ar dp un gd (envOf cn cs L a ccd) outer) (call (.ref 753) [.str b tb]) Q E s := by
  revert X; k_fill; intro X
  refine wpAny_call ?_
  refine' code_defS (g₀ := h₀) ?k1 ?k2 ?k3 ?k4 ?k5 ?XB ?TB ?D ?T0 ?kA ?k6 ?k7 ?k8 ?k9 ?kB ?_ ?cK ?c2 ?c3 ?c4 ?c5; (case kA => exact rfl); (case k2 => k_asm); (case k1 => k_asm); (case XB => assumption); (case TB => assumption); (case D => assumption); (case T0 => exact KtsTurn.refl); (case k3 => k_asm); (case k4 => k_asm); (case k5 => k_asm); (case k6 => k_is); (case k7 => k_is); (case k8 => k_room); (case k9 => first | exact binds_K (by k_in) rfl (by k_is) rfl rfl rfl | exact BindsTo.of_eq rfl); (case kB => exact locs rfl); (case cK => assumption); (case c2 => exact rfl); (case c3 => exact rfl); (case c4 => exact rfl); (case c5 => decide); k_whole; intro g' L' h' FG' F' N' B' X' T' D'; (try dsimp only); (try k_lift B'); (try k_fold)
  k_steps
  rename News g' L' _ _ => N9
  rename Fr g' L' _ _ => F9
  have hcs : b.cps.toList.length ≤ 1000 := by
    have e : b.length = b.cps.size := rfl
    rw [Array.length_toList, ← e]; exact hb
  rename (∀ q ∈ rest, @LT.lt Nat _ q.1 _) => lr
  rename Mine.LT => TL0
  rename ST => TT0
  have N10 := lx_perm N9
  refine list_lex (WC := WC0) (b := b) (TT := TT0) (TL := ⟨TL0.k0, TL0.k1, TL0.k2, TL0.k3, TL0.k4, TL0.k5, TL0.k6, TL0.k7, TL0.k8, TL0.k9, TL0.k10, TL0.k11, TL0.k12, TL0.k13, TL0.k14, TL0.k15, TL0.k16, TL0.k17, TL0.k18, tk, TL0.v5, TL0.v6, TL0.v8, TL0.v9, TL0.v10, TL0.v14, TL0.v18⟩) (pos := 0) (st := .sp) (cs := b.cps.toList) (l := l) rfl ?hd ?hu hb wc0_ok ?a1 ?a2 ?a3 ?a4 ?a5 ?r1 ?r2 B' X' T' hT hl ⟨_, rfl⟩ hcs (Int.le_refl 0) rfl F9 N10 ?_
  case hd => ktr_room
  case hu => ktr_units
  case a1 => assumption
  case a2 => assumption
  case a3 => assumption
  case a4 => assumption
  case a5 => assumption
  case r1 => exact fun q hq => Nat.ne_of_lt (by have z := lr q hq; (show @LT.lt Nat _ q.1 _); omega)
  case r2 => exact fun q hq => Nat.ne_of_lt (lr q hq)
  intro S vs c' h2 g2 tk2 hV hTn hB hF hN hlt
  refine leaveS_r hF hN hTn ?_
  intro h0' T9 F9' N9' B9 X9 P9 D9
  exact hret S vs c' _ h0' _ hV T9 F9' N9' hlt B9 X9 P9 D9
end
end
end
-- W16
section
section
variable {w : World} {p : Program} {lo : List Str} {mean : ExcName → Option Value} {mg mb : Str → Option Value} {dp un : Nat} {gd : Option (List Code)} {A₀ : Around} {env : Env} {outer : List Env} {base h₀ : Heap} {L : Addr} {m : Str → Option Value} {s : Shared} {Q E : Value → Shared → Prop} {news : List (Addr × Obj)}
theorem callWith_fu {M : Model} {A : Around} {E : Value → Shared → Prop} {s : Shared} {P : Params} {env : Env} {pos : Pos} {first : List Value} {Q : Value → Shared → Prop} {e : Expr} {rest : List Expr} (h : wpAny M A (spliced (backTo pos (starEach (e :: rest) env))) (fun vs s₁ => (K P).In s₁.heap ∧ wpAny M A (call (.ref 761) (first ++ vs)) Q E s₁) E s)
    (he : starEach (e :: rest) env = (false, eval e env) :: starEach rest env := by rfl) (hplain : (backTo pos (starEach rest env)).any (·.1) = false := by rfl) :
    wpAny M A (callWith pos (.ref 761) first (backTo pos (starEach (e :: rest) env)) []) Q E s := by
  rw [he] at h ⊢
  exact callWith_of (by show ((false || (backTo pos (starEach rest env)).any (·.1)) || false) = false; rw [hplain]; rfl) (fun h' X => ⟨.machine, .inr (.inl rfl), Looks.of_peek (K := K P) X (fu_keeper _ _)⟩) (evalArgs_plain h)
local macro_rules | `(tactic| walk_at "callWith ref") => `(tactic| (k_here; (with_reducible show wpAny _ _ (callWith _ (Value.ref 761) _ _ _) _ _ _); k_dflt (refine' callWith_fu (P := w.params) ?_; k_whole)))
local macro_rules | `(tactic| walk_at "truthy str") => `(tactic| (k_here; first | (refine truthy_strH (by assumption) (by assumption) ?_; intro _)))
theorem qt_safe {b : Str} (hne : 1 ≤ b.cps.size) (h : ∀ i, i < b.cps.size → saf (b.cps.getD i 0) = true) : qt b.cps.toList = b.cps.toList := by
  unfold qt
  rw [if_neg (by intro e; have := congrArg List.length e; simp at this; rw [this] at hne; exact absurd hne (by decide)), if_pos]
  rw [List.all_eq_true]
  intro x hx
  obtain ⟨i, hi, rfl⟩ := List.mem_iff_getElem.mp hx
  have := h i (by simpa using hi)
  have hi' : i < b.cps.size := by simpa using hi
  simp only [Array.getD, hi', dif_pos] at this
  simpa using this
theorem qt_unsafe {b : Str} (hne : 1 ≤ b.cps.size) {i : Nat} (hi : i < b.cps.size) (h : saf (b.cps.getD i 0) = false) : qt b.cps.toList = 39 :: b.cps.toList.flatMap qc ++ [39] := by
  unfold qt
  rw [if_neg (by intro e; have := congrArg List.length e; simp at this; rw [this] at hne; exact absurd hne (by decide)), if_neg]
  rw [List.all_eq_true]
  intro hx
  have := hx (b.cps.getD i 0) (by simp [Array.getD, hi])
  rw [h] at this
  cases this
theorem code_defQ {prog : Program} {A : Around} {Kf : Frag} {R : Result → Shared → Prop} {name qual : Str} {params : Arguments} {body : List Stmt} {scope : Scope} {dV kV doc pm cdv ct oc : Value} {an od : Option Addr} {osl : Array (Option Value)} {f : Addr} {args : Args} {binds : List (Str × Value)}
    (X : Kf.In s.heap) (T : Top p lo mean mg mb s.heap)
    (ho : Kf.lookup f = some ⟨oc, od, .func (fnOf name qual params body scope dV kV doc pm an cdv ct), osl⟩) (hcd : codeIn Kf cdv qual = true) (hroom : A.depth < recursionLimit)
    (hbind : BindsTo s (fnOf name qual params body scope dV kV doc pm an cdv ct) args binds) (hloc : ∀ y ∈ binds, scope.names.lookup y.1 = some .local)
    (h : ∀ g L' h₁, (∀ b o, s.heap.get? b = some o → g.get? b = some o) → Fr g L' h₁ (fun y => binds.reverse.lookup y) → News g L' h₁ [] → Kf.In g → Top p lo mean mg mb g →
      wpAny (model prog w) (A.deeper (envOf qual scope L' f cdv)) (execs body (envOf qual scope L' f cdv))
        (fun fl s' => R (.ok (.ret (match fl with | .ret v => v | _ => .none))) s')
        (fun e s' => wpAny (model prog w) (A.deeper (envOf qual scope L' f cdv)) (leaving (envOf qual scope L' f cdv) e) (fun _ s'' => R (.error e) s'') (fun e' s'' => R (.error e') s'') s')
        { s with heap := h₁, toks := s.toks + binds.length })
    (hco : scope.isCoroutine = false) (hgen : scope.isGenerator = false) (hk : scope.kind = .function)
    (hcell : ∀ x ∈ scope.names, x.2 ≠ .cell) : codeAny (model prog w) A (.call (.ref f) args) R s := by
  refine codeAny_call_def (fd := fnOf name qual params body scope dV kV doc pm an cdv ct) (body := body) (binds := binds) hroom (X _ _ ho) rfl T.nolimit (codeRec_of X hcd) rfl hbind hcell hloc (fun h₁ hns hk₁ => ?_) hco hgen hk
  exact h s.heap s.heap.objs.size h₁ (fun _ _ e => e) ⟨hns, fun b o e => hk₁ b o e, Nat.le_refl _⟩ News.nil X T
local macro_rules | `(tactic| k_enter) => `(tactic| (refine' code_defQ ?k3 ?k5 ?k6 ?k7 ?k8 ?k9 ?kB ?_ ?c2 ?c3 ?c4 ?c5; (case k3 | k5 => k_asm); (case k6 | k7 => k_is); (case k8 => k_room); (case k9 => first | exact BindsTo.of_eq rfl | exact binds_K (by k_in) rfl (by k_is) rfl rfl rfl | fail "k_enter: no rule for these arguments"); (case c5 => decide); (case kB => exact locs rfl); (case c2 | c3 | c4 => exact rfl); k_whole; intro g' L' h' FG' F' N' X' T'; (try dsimp only); (try k_fold)))
section
variable {b : Str} {tb : Tok} {rest : List (Addr × Obj)}
theorem quote_pos {A : Around} (X : (K w.params).In s.heap) (T : Top p lo mean mg mb s.heap) (hh : A.handled = none) (hd : A.depth + 10 < recursionLimit) (hu : A.units + 50 < cLine) (hb : b.cps.size ≤ 3) (hne : 1 ≤ b.cps.size)
    (hret : ∀ (r : Str) (t : Tok) (h' : Heap) (tk' : Nat), r.cps.toList = qt b.cps.toList → (∀ b o, s.heap.get? b = some o → h'.get? b = some o) → Q (.str r t) { s with heap := h', toks := tk' }) :
    wpAny (model PySem.Challenge.rw_op0211_01.row.toRowW.prog w) A (call (.ref 768) [.str b tb]) Q E s := by
  have ht : ((b.length : Int) != 0) = true := by (have e : b.length = b.cps.size := rfl); rw [e, bne_iff_ne]; omega
  have hl : b.length ≤ 16777216 := by (have e : b.length = b.cps.size := rfl); omega
  have hl2 : b.length ≤ 1048576 := by (have e : b.length = b.cps.size := rfl); omega
  have rN := replN b hne hb
  have rL : (Txt.replace b (Str.ofString "'") (Str.ofString "'\"'\"'")).length ≤ 15 := by
    (show (Txt.replace b (Str.ofString "'") (Str.ofString "'\"'\"'")).cps.size ≤ 15)
    rw [← Array.length_toList, rN]
    have : ∀ l : List Nat, (l.flatMap qc).length ≤ 5 * l.length := by
      intro l
      induction l with
      | nil => simp
      | cons a l ih => simp only [List.flatMap_cons, List.length_append, List.length_cons]; have : (qc a).length ≤ 5 := by (unfold qc; split <;> simp)
                       omega
    have := this b.cps.toList
    rw [Array.length_toList] at this
    exact Nat.le_trans this (Nat.mul_le_mul_left 5 hb)
  revert X; k_fill; intro X
  refine wpAny_call ?_
  k_enter
  rename (∀ b o, s.heap.get? b = some o → _) => FG'
  k_steps
  rename News _ _ _ _ => N9
  rename Fr _ _ _ _ => F9
  rename (K w.params).In _ => X9
  refine call_fu F9 X9 N9 hne (by omega) ?_ ?_
  · intro i hi hs x h' F' N'
    clear F9 N9
    k_steps
    rename Fr _ _ _ _ => F9
    refine hret _ _ _ _ ?_ (fun b o e => F9.keep b o (FG' b o e))
    rw [qt_unsafe hne hi hs, ← rN]
    (show (#[39] ++ (Txt.replace b (Str.ofString "'") (Str.ofString "'\"'\"'")).cps ++ #[39]).toList = _)
    simp
  · intro hall
    k_steps
    rename Fr _ _ _ _ => F9
    exact hret _ _ _ _ (qt_safe hne hall).symm (fun b o e => F9.keep b o (FG' b o e))
end
section
variable {b : Str} {tb : Tok} {rest : List (Addr × Obj)}
theorem quote_nil {A : Around} (X : (K w.params).In s.heap) (T : Top p lo mean mg mb s.heap) (hh : A.handled = none) (hd : A.depth + 10 < recursionLimit) (hu : A.units + 50 < cLine) (hb : b.cps.size = 0)
    (hret : ∀ (r : Str) (t : Tok) (h' : Heap) (tk' : Nat), r.cps.toList = qt b.cps.toList → (∀ b o, s.heap.get? b = some o → h'.get? b = some o) → Q (.str r t) { s with heap := h', toks := tk' }) :
    wpAny (model PySem.Challenge.rw_op0211_01.row.toRowW.prog w) A (call (.ref 768) [.str b tb]) Q E s := by
  have ht : ((b.length : Int) != 0) = false := by (have e : b.length = b.cps.size := rfl); rw [e, hb]; rfl
  have hl : b.length ≤ 16777216 := by (have e : b.length = b.cps.size := rfl); omega
  revert X; k_fill; intro X
  refine wpAny_call ?_
  k_enter
  rename (∀ b o, s.heap.get? b = some o → _) => FG'
  k_steps
  rename Fr _ _ _ _ => F9
  refine hret _ _ _ _ ?_ (fun b o e => F9.keep b o (FG' b o e))
  have : b.cps.toList = [] := by rw [← List.length_eq_zero_iff, Array.length_toList, hb]
  rw [this]
  rfl
theorem quote_spec {A : Around} (X : (K w.params).In s.heap) (T : Top p lo mean mg mb s.heap) (hh : A.handled = none) (hd : A.depth + 10 < recursionLimit) (hu : A.units + 50 < cLine) (hb : b.cps.size ≤ 3)
    (hret : ∀ (r : Str) (t : Tok) (h' : Heap) (tk' : Nat), r.cps.toList = qt b.cps.toList → (∀ b o, s.heap.get? b = some o → h'.get? b = some o) → Q (.str r t) { s with heap := h', toks := tk' }) :
    wpAny (model PySem.Challenge.rw_op0211_01.row.toRowW.prog w) A (call (.ref 768) [.str b tb]) Q E s := by
  by_cases h : b.cps.size = 0
  · exact quote_nil X T hh hd hu h hret
  · exact quote_pos X T hh hd hu hb (by omega) hret
end
end
end
-- W17
section
section
variable {w : World} {p : Program} {lo : List Str} {mean : ExcName → Option Value} {mg mb : Str → Option Value} {dp un : Nat} {gd : Option (List Code)} {A₀ : Around} {env : Env} {outer : List Env} {base h₀ : Heap} {L : Addr} {m : Str → Option Value} {s : Shared} {Q E : Value → Shared → Prop} {news : List (Addr × Obj)}
def tabO (ps : Array Value) : Obj := { cls := .none, data := .fields ps }
def TabOk (ps : Array Value) : Prop := ps = #[] ∨ ∃ c' : Addr, ps = #[rawInt 748, rawInt 20, .ref c']
theorem in_759 (P : Params) : (K P).lookup 759 = some (o759 P) := by kernel_rfl
theorem gcode {M : Model} {A : Around} {P : Params} {en ec : Nat} {qual : Str} {scope : Scope} {jenv : Env} {ps : Array Value} (hj : jenv.code = .ref 759) (X : (K P).In s.heap) (hT : s.heap.get? 755 = some (tabO ps)) (hp : TabOk ps) {Q : Value → Shared → Prop}
    (hQ : ∀ (c' : Addr) h' tk ps', TabOk ps' → Heap.ExtBut 755 s.heap h' → s.heap.objs.size ≤ h'.objs.size → h'.get? 755 = some (tabO ps') → Q (.ref c') { s with heap := h', toks := tk }) :
    wpAny M A (genexprCode jenv { line := 748, col := 20, endLine := en, endCol := ec } qual scope) Q E s := by
  have h9 := X _ _ (in_759 P)
  have htr : TriplesOk ps.toList := by
    rcases hp with rfl | ⟨c', rfl⟩
    · exact True.intro
    · exact True.intro
  have hic : s.heap.IsCode 759 755 ps := ⟨o759 P, _, _, _, _, _, _, _, _, _, h9, rfl, rfl, rfl, rfl, rfl, rfl, hT, rfl, htr, by decide⟩
  have hta : s.heap.TableAt 759 755 ps := ⟨⟨o759 P, _, h9, rfl, rfl, rfl⟩, hT⟩
  rcases hp with rfl | ⟨c', rfl⟩
  · refine wpAny_genexprCodeX hj hic hta rfl ?_
    intro c' h' tk he hc hlt _ _ ht _
    exact hQ c' h' tk _ (.inr ⟨c', rfl⟩) he (Nat.le_trans hc (Nat.le_of_lt hlt)) ht.2
  · unfold genexprCode codeAt
    rw [hj, if_neg (show ¬ ((Value.ref 759 == Value.none) = true) from Bool.false_ne_true)]
    refine wpAny_bind (wpAny_fieldsOf h9 rfl ?_)
    refine wpAny_bind (wpAny_fieldsOf hT rfl ?_)
    exact wpAny_pure (hQ c' s.heap s.toks _ (.inr ⟨c', rfl⟩) (Heap.ExtBut.refl _ _) (Nat.le_refl _) hT)
theorem q_ns (P : Params) : nsIn (K P) mainGlobals (Str.ofString "quote") = some (some (.ref 768)) := by kernel_rfl
theorem q_keep (P : Params) : keepIn (K P) (.ref 768) = true := by kernel_rfl
abbrev gscope : Scope := { kind := ScopeKind.function, names := [(Str.ofString ".0", NameKind.local), (Str.ofString "arg", NameKind.local), (Str.ofString "quote", NameKind.globalImplicit)], isGenerator := true, isCoroutine := false }
theorem gelt {A : Around} {C : Addr} {code : Value} {e0 : Env} {m₂ : Str → Option Value} {b : Str} {tb : Tok} {p1 p2 p3 : Pos} (hg : e0.globals = mainGlobals) (hn : s.heap.Ns C m₂) (hv : m₂ (Str.ofString "arg") = some (.str b tb)) (X : (K w.params).In s.heap) (T : Top p lo mean mg mb s.heap) (hh : A.handled = none)
    (hd : A.depth + 10 < recursionLimit) (hu : A.units + 50 < cLine) (hb : b.cps.size ≤ 3)
    (hret : ∀ (t : Tok) (h' : Heap) (tk' : Nat), (∀ b o, s.heap.get? b = some o → h'.get? b = some o) → Q (.str ⟨(qt b.cps.toList).toArray⟩ t) { s with heap := h', toks := tk' }) :
    wpAny (model PySem.Challenge.rw_op0211_01.row.toRowW.prog w) A (eval (.Call (.Name (Str.ofString "quote") p1) [.Name (Str.ofString "arg") p2] [] p3) (genEnv gscope [] C code builtinsNs e0)) Q E s := by
  refine wpAny_Call_Name_kw ?_
  refine Name_function_global (env := genEnv gscope [] C code builtinsNs e0) rfl rfl (loadGlobal_global (env := genEnv gscope [] C code builtinsNs e0) (mg := mg) (by (show s.heap.Ns e0.globals mg); rw [hg]; exact T.g) (mg_of X T.g (q_ns _)) ?_) (by decide)
  refine callWith_K X (q_keep w.params) ?_
  refine spliced_more ?_
  refine wpAny_Name (wpAny_loadName_local rfl rfl hn hv ?_) (by decide)
  refine spliced_none ?_
  refine ⟨X, ?_⟩
  refine quote_spec X T hh hd hu hb ?_
  intro r t h' tk' hr hk
  have : r = ⟨(qt b.cps.toList).toArray⟩ := by
    obtain ⟨⟨l⟩⟩ := r
    have hr : l = qt b.cps.toList := hr
    rw [← hr]
  rw [this]
  exact hret t h' tk' hk
abbrev jscope : Scope := { kind := ScopeKind.function, names := [(Str.ofString "split_command", NameKind.local)], isGenerator := false, isCoroutine := false }
theorem pass_all (n : Nat) : passing (fun _ => true) n 0 = List.range n := by simp [passing]
theorem gexp {A : Around} {g : Heap} {l : Addr} {items ps : Array Value} {ci : Nat} {rest : List (Addr × Obj)} {ws : List (List Nat)} {m : Str → Option Value} {p1 p2 p3 p4 p5 : Pos} {en ec : Nat}
    (F : Fr g L s.heap m) (X : (K w.params).In g) (N : News g L s.heap ((l, lsObj items ci) :: (755, tabO ps) :: rest)) (T : Top p lo mean mg mb g) (hp : TabOk ps) (hr : ∀ q ∈ rest, q.1 ≠ 755) (hv : m (Str.ofString "split_command") = some (.ref l)) (hg : AllBare s.gens) (hh : A.handled = none)
    (hd : A.depth + 15 < recursionLimit) (hu : A.units + 80 < cLine) (hit : ∀ i v, items[i]? = some v → ∃ b t, v = .str b t ∧ b.cps.size ≤ 3 ∧ b.cps.toList = ws.getD i [])
    (h : ∀ (a : Addr) (s' : Shared) (ps' : Array Value) (Kb : Addr), TabOk ps' → Fr g L s'.heap m → News g L s'.heap ((l, lsObj items ci) :: (755, tabO ps') :: rest) → AllBare s'.gens → s'.os = s.os →
      @LE.le Nat _ L Kb → (∀ q ∈ ((l, lsObj items ci) :: (755, tabO ps') :: rest), @LE.le Nat _ q.1 Kb) →
      Gen PySem.Challenge.rw_op0211_01.row.toRowW.prog w A Kb a items.size (fun j y => ∃ u, y = .str ⟨(qt (ws.getD j [])).toArray⟩ u) s' → Q (.ref a) s') :
    wpAny (model PySem.Challenge.rw_op0211_01.row.toRowW.prog w) A (eval (.GeneratorExp (.Call (.Name (Str.ofString "quote") p1) [.Name (Str.ofString "arg") p2] [] p3) [{ target := .Name (Str.ofString "arg") p4, iter := .Name (Str.ofString "split_command") p5, ifs := [], is_async := 0 }] gscope { line := 748, col := 20, endLine := en, endCol := ec }) (envOf (Str.ofString "join") jscope L 760 (.ref 759))) Q E s := by
  have hl := (N _ (.head _)).1
  have ht := (N _ (.tail _ (.head _))).1
  have hlP : l ≠ 755 := by
    intro e
    rw [e] at hl
    have hl : s.heap.get? 755 = some (lsObj items ci) := hl
    have ht : s.heap.get? 755 = some (tabO ps) := ht
    rw [hl] at ht
    cases ht
  have hgP : g.get? 755 = none := (N _ (.tail _ (.head _))).2.2
  have hLP : (755 : Addr) ≠ L := (N _ (.tail _ (.head _))).2.1
  have hL : @LT.lt Nat _ L s.heap.objs.size := F.ns.lt
  have hsP : @LT.lt Nat _ 755 s.heap.objs.size := Heap.lt_size ht
  have hgs : @LE.le Nat _ g.objs.size L := F.above
  refine wpAny_GeneratorExp_walksQD hh rfl rfl (by decide) rfl rfl rfl (by omega) (ld F hv ?_) (fun _ => rfl)
  refine wpAny_pyIter_list (items := items) ⟨_, hl, rfl, _, rfl⟩ ?_
  have k1 : ∀ b o, s.heap.get? b = some o → (s.heap.push { cls := .type "list_iterator", data := .fields #[.ref l, .int 0 0] }).get? b = some o := fun _ _ e => Heap.get?_push_of_some _ e
  refine ⟨(T.nolimit.keeps F.keep).push _, ?_⟩
  refine gcode (P := w.params) (ps := ps) rfl ((X.keeps F.keep).keeps k1) (k1 _ _ ht) hp ?_
  intro c' h3 tk3 ps' hp' he hsz ht3
  have hsz' : @LE.le Nat _ (s.heap.objs.size + 1) h3.objs.size := by
    have := hsz
    simp only [Heap.size_push] at this
    exact this
  have k3 : ∀ b o, b ≠ 755 → s.heap.get? b = some o → h3.get? b = some o := fun b o hb e => he b o hb (k1 b o e)
  have kg : ∀ b o, g.get? b = some o → h3.get? b = some o := fun b o e => k3 b o (fun e' => by rw [e', hgP] at e; cases e) (F.keep b o e)
  have T3 : Top p lo mean mg mb h3 := T.keeps kg
  obtain ⟨bm, ob, M⟩ := bmod_of_top T3
  refine wpAny_builtinsFor M.ns M.name M.ne M.obj M.cls M.dict M.data ?_
  have hIt : h3.get? s.heap.objs.size = some { cls := .type "list_iterator", data := .fields #[.ref l, .int 0 0] } := he _ _ (Nat.ne_of_gt hsP) (Heap.get?_push_size _ rfl)
  have hcs : cStatics ∉ [s.heap.objs.size] := by
    intro hm
    have e := List.mem_singleton.mp hm
    obtain ⟨_, hn, _⟩ := T.nolimit
    have := (hn.keeps F.keep).lt
    rw [e] at this
    exact Nat.lt_irrefl _ this
  refine ⟨s.heap.objs.size, [s.heap.objs.size, l], [s.heap.objs.size], items.size, _, _, (fun _ => true), (fun i y => ∃ u, y = Value.str ⟨(qt (ws.getD i [])).toArray⟩ u), rfl,
    (fun A' hA => Walks.list hA _ _ (Nat.ne_of_lt (Heap.lt_size hl)) items), ⟨⟨_, hIt, rfl, rfl⟩, ⟨_, k3 _ _ hlP hl, rfl, _, rfl⟩⟩, ?_, T3.nolimit, hcs, ?_, ?_⟩
  · intro b hb
    rcases List.mem_cons.mp hb with rfl | hb
    · exact Heap.lt_size hIt
    · rcases List.mem_cons.mp hb with rfl | hb
      · exact Heap.lt_size (k3 _ _ hlP hl)
      · cases hb
  · intro href hk
    constructor
    · intro A' E' i v s₂ m₂ hA hD hU hP hn hm hkp
      exact wpAny_pure ⟨rfl, s₂.heap, s₂.toks, rfl, fun _ _ e => e⟩
    · intro A' E' i v s₂ m₂ hA hD hU hP hpz hn hm hkp
      obtain ⟨b, t, rfl, hb, hbw⟩ := hit i v hP
      have kk : ∀ b o, g.get? b = some o → s₂.heap.get? b = some o := fun b o e => hkp b (List.mem_range.mpr (Heap.lt_size (kg b o e))) (by
        intro hm
        have := List.mem_singleton.mp hm
        have hb : @LT.lt Nat _ b g.objs.size := Heap.lt_size e
        rw [this] at hb
        omega) o (hk b o (kg b o e))
      refine gelt (m₂ := m₂) (b := b) (tb := t) rfl hn hm (X.keeps kk) (T.keeps kk) hA (by omega) (by omega) hb ?_
      intro t' h' tk' hk'
      refine ⟨⟨t', by rw [hbw]⟩, h', tk', rfl, hk'⟩
  · intro a h₅ tk gs hgb hag hsz₅ hk₅ W hat
    have Np : News g L h₅ ((l, lsObj items ci) :: (755, tabO ps') :: rest) := by
      intro q hq
      rcases List.mem_cons.mp hq with rfl | hq
      · exact ⟨hk₅ _ _ (k3 _ _ hlP hl), (N _ (.head _)).2⟩
      · rcases List.mem_cons.mp hq with rfl | hq
        · exact ⟨hk₅ _ _ ht3, (N _ (.tail _ (.head _))).2⟩
        · have z := N _ (.tail _ (.tail _ hq))
          exact ⟨hk₅ _ _ (k3 _ _ (hr q hq) z.1), z.2⟩
    have G0 : Gen PySem.Challenge.rw_op0211_01.row.toRowW.prog w A (s.heap.objs.size - 1) a (passing (fun _ => true) items.size 0).length (fun j y => ∃ i, (passing (fun _ => true) items.size 0)[j]? = some i ∧ ∃ u, y = Value.str ⟨(qt (ws.getD i [])).toArray⟩ u) { s with gens := s.gens.push gs, toks := tk, heap := h₅ } := by
      refine ⟨_, _, _, _, W, hat, (fun i s' st => st.1.typeIs), List.mem_cons_self, ?_, ?_⟩
      · intro b hb
        show b < h₅.objs.size
        rw [hsz₅]
        rcases List.mem_cons.mp hb with rfl | hb
        · exact Nat.lt_succ_self _
        · rcases List.mem_cons.mp hb with rfl | hb
          · exact Nat.lt_succ_of_lt hag
          · exact Nat.lt_succ_of_lt (Nat.lt_trans (List.mem_range.mp hb) hag)
      · intro b hb
        (show @LT.lt Nat _ (s.heap.objs.size - 1) b)
        rcases List.mem_cons.mp hb with rfl | hb
        · (show @LT.lt Nat _ (s.heap.objs.size - 1) h3.objs.size); omega
        · have := List.mem_singleton.mp hb
          rw [this]
          omega
    rw [pass_all, List.length_range] at G0
    refine h a _ ps' (s.heap.objs.size - 1) hp' ⟨?_, fun b o e => hk₅ _ _ (kg b o e), F.above⟩ Np (hg.push hgb) rfl (by omega) ?_ (G0.imp ?_)
    · exact (F.ns.at fun o e => hk₅ _ _ (k3 _ o (Ne.symm hLP) e))
    · intro q hq
      have : @LT.lt Nat _ q.1 s.heap.objs.size := by
        rcases List.mem_cons.mp hq with rfl | hq
        · exact Heap.lt_size hl
        · rcases List.mem_cons.mp hq with rfl | hq
          · exact hsP
          · exact Heap.lt_size (N _ (.tail _ (.tail _ hq))).1
      omega
    · intro j y hy
      obtain ⟨i, e, hy⟩ := hy
      have : i = j := by
        by_cases hj : j < items.size
        · simp [hj] at e; exact e.symm
        · simp [hj] at e
      rw [← this]
      exact hy
end
end
-- W18
section
section
variable {w : World} {p : Program} {lo : List Str} {mean : ExcName → Option Value} {mg mb : Str → Option Value} {dp un : Nat} {gd : Option (List Code)} {A₀ : Around} {env : Env} {outer : List Env} {base h₀ : Heap} {L : Addr} {m : Str → Option Value} {s : Shared} {Q E : Value → Shared → Prop} {news : List (Addr × Obj)}
def jl : List (List Nat) → List Nat
  | [] => []
  | [x] => qt x
  | x :: y :: r => qt x ++ 32 :: jl (y :: r)
def qS (x : List Nat) : Str := ⟨(qt x).toArray⟩
theorem glue_acc (ws : List (List Nat)) : ∀ acc : Array Nat, ((ws.map qS).foldl (fun acc p => acc ++ (Str.ofString " ").cps ++ p.cps) acc).toList = acc.toList ++ ws.flatMap fun x => 32 :: qt x := by
  induction ws with
  | nil => intro acc; simp
  | cons x r ih =>
    intro acc
    simp only [List.map_cons, List.foldl_cons, List.flatMap_cons]
    rw [ih]
    have e : (Str.ofString " ").cps = #[32] := by decide
    rw [e]
    simp [qS]
theorem jl_cons (x : List Nat) (r : List (List Nat)) : jl (x :: r) = qt x ++ r.flatMap fun x => 32 :: qt x := by
  induction r generalizing x with
  | nil => simp [jl]
  | cons y r ih => simp [jl, ih]
theorem join_text (ws : List (List Nat)) : (Txt.join (Str.ofString " ") (ws.map qS)).cps.toList = jl ws := by
  cases ws with
  | nil => rfl
  | cons x r =>
    rw [jl_cons]
    (show (((r.map qS)).foldl (fun acc p => acc ++ (Str.ofString " ").cps ++ p.cps) (qS x).cps).toList = _)
    rw [glue_acc]
    simp [qS]
theorem qc_len (c : Nat) : (qc c).length ≤ 5 := by unfold qc; split <;> simp
theorem fm_len (l : List Nat) : (l.flatMap qc).length ≤ 5 * l.length := by
  induction l with
  | nil => simp
  | cons a l ih => simp only [List.flatMap_cons, List.length_append, List.length_cons]; have := qc_len a; omega
theorem qt_len (l : List Nat) (h : l.length ≤ 3) : (qt l).length ≤ 17 := by
  unfold qt
  split
  · simp
  · split
    · omega
    · have := fm_len l
      simp only [List.cons_append, List.length_cons, List.length_append, List.length_nil]
      omega
theorem jl_len (ws : List (List Nat)) (h : ∀ x ∈ ws, x.length ≤ 3) : (jl ws).length ≤ 18 * ws.length := by
  cases ws with
  | nil => simp [jl]
  | cons x r =>
    rw [jl_cons]
    have h1 := qt_len x (h x (.head _))
    have h2 : ∀ r : List (List Nat), (∀ x ∈ r, x.length ≤ 3) → (r.flatMap fun x => 32 :: qt x).length ≤ 18 * r.length := by
      intro r hr
      induction r with
      | nil => simp
      | cons y r ih =>
        have := ih (fun x hx => hr x (.tail _ hx))
        have := qt_len y (hr y (.head _))
        simp only [List.flatMap_cons, List.length_append, List.length_cons]
        omega
    have h3 := h2 r fun x hx => h x (.tail _ hx)
    simp only [List.length_append, List.length_cons]
    omega
theorem joinOk (ws : List (List Nat)) (h : ∀ x ∈ ws, x.length ≤ 3) (hn : ws.length ≤ 100) : JoinOk (Str.ofString " ") (ws.map qS) = true := by
  have h2 : ∀ (r : List (List Nat)) (k : Nat), (∀ x ∈ r, x.length ≤ 3) → (r.map qS).foldl (fun n s => n + s.length + (Str.ofString " ").length) k ≤ k + 18 * r.length := by
    intro r
    induction r with
    | nil => intro k _; simp
    | cons y r ih =>
      intro k hr
      simp only [List.map_cons, List.foldl_cons, List.length_cons]
      have e : (Str.ofString " ").length = 1 := by decide
      have := ih (k + (qS y).length + (Str.ofString " ").length) (fun x hx => hr x (.tail _ hx))
      have h3 : (qS y).length ≤ 17 := by
        have := qt_len y (hr y (.head _))
        (show (qt y).toArray.size ≤ 17)
        simpa using this
      rw [e] at this ⊢
      omega
  have h4 := h2 ws 0 h
  unfold JoinOk
  have e : (ws.map qS).toArray.foldl (fun n s => n + s.length + (Str.ofString " ").length) 0 = (ws.map qS).foldl (fun n s => n + s.length + (Str.ofString " ").length) 0 := by simp
  rw [e]
  have : Builtin.Str.tooLong ((ws.map qS).foldl (fun n s => n + s.length + (Str.ofString " ").length) 0) = false := by
    unfold Builtin.Str.tooLong
    refine decide_eq_false ?_
    rw [sizeLine_eq]
    omega
  rw [this]
  rfl
theorem range_map (ws : List (List Nat)) : (List.range ws.length).map (fun j => qS (ws.getD j [])) = ws.map qS := by
  apply List.ext_getElem?
  intro j
  by_cases hj : j < ws.length
  · simp [hj]
  · simp [hj]
section
variable {l : Addr} {items : Array Value} {ps : Array Value} {ci : Nat} {rest : List (Addr × Obj)} {ws : List (List Nat)}
theorem join_spec (B : Below A₀ base outer h₀) (F : Fr h₀ L s.heap m) (X : (K w.params).In h₀) (N : News h₀ L s.heap ((l, lsObj items ci) :: (755, tabO ps) :: rest)) (T : Top p lo mean mg mb h₀) (hf : env.frame = some L) (hke : env.scope.kind = .function) (hd : dp + 30 < recursionLimit) (hu : un + 150 < cLine) (hg : AllBare s.gens) (hp : TabOk ps) (hr : ∀ q ∈ rest, q.1 ≠ 755)
    (hit : ∀ i v, items[i]? = some v → ∃ b t, v = .str b t ∧ b.cps.size ≤ 3 ∧ b.cps.toList = ws.getD i []) (hn : items.size = ws.length) (hw : ∀ x ∈ ws, x.length ≤ 3) (h5 : ws.length ≤ 100)
    (hret : ∀ (r : Str) (t : Tok) (s' : Shared) (ps' : Array Value), r.cps.toList = jl ws → TabOk ps' → Fr h₀ L s'.heap m → News h₀ L s'.heap ((l, lsObj items ci) :: (755, tabO ps') :: rest) → AllBare s'.gens → s'.os = s.os → Q (.str r t) s') :
    wpAny (model PySem.Challenge.rw_op0211_01.row.toRowW.prog w) (Ar dp un gd env outer) (call (.ref 760) [.ref l]) Q E s := by
  revert X; k_fill; intro X
  k_steps
  rename News _ _ _ _ => N9
  rename Fr _ _ _ _ => F9
  rename (K w.params).In _ => X9
  rename Top _ _ _ _ _ _ => T9
  refine gexp (ws := ws) F9 X9 N9 T9 hp hr rfl hg ?_ ?_ ?_ hit ?_
  · exact rfl
  · ktr_room
  · ktr_units
  intro a s' ps' Kb hp' F' N' G' hos hLK hle X'
  clear N9 F9
  k_steps
  rw [hn] at X'
  refine join_rowsK F' G' X' hLK (fun j => qS (ws.getD j [])) (fun j v hv => hv) (by rw [range_map]; exact joinOk ws hw h5) ?_ (by rw [sizeLine_eq]; omega)
  intro s2 t' F2 G2 hos2 hk2
  have N2 := fun q hq => (⟨hk2 _ _ (hle q hq) (N' q hq).1, (N' q hq).2⟩ : _ ∧ _)
  have N2 : News _ _ _ _ := N2
  clear F' N'
  k_steps
  rename News h₀ L _ _ => N3
  rename Fr h₀ L _ m => F3
  refine hret _ _ _ ps' ?_ hp' F3 N3 G2 (hos2.trans hos)
  rw [range_map]
  exact join_text ws
end
end
end
-- W19
section
section
variable {w : World} {p : Program} {lo : List Str} {mean : ExcName → Option Value} {mg mb : Str → Option Value} {dp un : Nat} {gd : Option (List Code)} {A₀ : Around} {env : Env} {outer : List Env} {base h₀ : Heap} {L : Addr} {m : Str → Option Value} {s : Shared} {Q E : Value → Shared → Prop} {news : List (Addr × Obj)}
theorem codeN_defQ {prog : Program} {A : Around} {Kf : Frag} {R : Result → Shared → Prop} {name qual : Str} {params : Arguments} {body : List Stmt} {scope : Scope} {dV kV doc pm cdv ct oc : Value} {an od : Option Addr} {osl : Array (Option Value)} {f : Addr} {args : Args} {binds : List (Str × Value)}
    (X : Kf.In s.heap) (T : Top p lo mean mg mb s.heap)
    (ho : Kf.lookup f = some ⟨oc, od, .func (fnOf name qual params body scope dV kV doc pm an cdv ct), osl⟩) (hcd : codeIn Kf cdv qual = true) (hroom : A.depth < recursionLimit)
    (hbind : BindsTo s (fnOf name qual params body scope dV kV doc pm an cdv ct) args binds) (hloc : ∀ y ∈ binds, scope.names.lookup y.1 = some .local)
    (h : ∀ g L' h₁, (∀ b o, s.heap.get? b = some o → g.get? b = some o) → Fr g L' h₁ (fun y => binds.reverse.lookup y) → News g L' h₁ [] → Kf.In g → Top p lo mean mg mb g →
      wpN (model prog w) (A.deeper (envOf qual scope L' f cdv)) (execs body (envOf qual scope L' f cdv))
        (fun fl s' => R (.ok (.ret (match fl with | .ret v => v | _ => .none))) s')
        (fun e s' => wpAny (model prog w) (A.deeper (envOf qual scope L' f cdv)) (leaving (envOf qual scope L' f cdv) e) (fun _ s'' => R (.error e) s'') (fun e' s'' => R (.error e') s'') s')
        { s with heap := h₁, toks := s.toks + binds.length })
    (hco : scope.isCoroutine = false) (hgen : scope.isGenerator = false) (hk : scope.kind = .function)
    (hcell : ∀ x ∈ scope.names, x.2 ≠ .cell) : codeN (model prog w) A (.call (.ref f) args) R s := by
  refine codeN_call_def (fd := fnOf name qual params body scope dV kV doc pm an cdv ct) (body := body) (binds := binds) hroom (X _ _ ho) rfl T.nolimit (codeRec_of X hcd) rfl hbind hcell hloc (fun h₁ hns hk₁ => ?_) hco hgen hk
  exact h s.heap s.heap.objs.size h₁ (fun _ _ e => e) ⟨hns, fun b o e => hk₁ b o e, Nat.le_refl _⟩ News.nil X T
def mapOf : List (Str × Value) → Str → Option Value
  | [] => fun _ => none
  | (k, v) :: r => fun y => if y = k then some v else mapOf r y
theorem mapOf_nil : mapOf [] = fun _ => none := rfl
theorem mapOf_cons {k : Str} {v : Value} {r : List (Str × Value)} : mapOf ((k, v) :: r) = fun y => if y = k then some v else mapOf r y := rfl
theorem mapOf_lookup (l : List (Str × Value)) : (fun y => l.lookup y) = mapOf l := by
  induction l with
  | nil => rfl
  | cons q r ih =>
    obtain ⟨k, v⟩ := q
    funext y
    have := congrFun ih y
    simp only [List.lookup_cons, mapOf_cons]
    by_cases h : y = k
    · subst h; simp
    · simp only [if_neg h, ← this]
      have : (y == k) = false := by simpa using h
      rw [this]
theorem codeN_defR {prog : Program} {A : Around} {Kf : Frag} {R : Result → Shared → Prop} {name qual : Str} {params : Arguments} {body : List Stmt} {scope : Scope} {dV kV doc pm cdv ct oc : Value} {an od : Option Addr} {osl : Array (Option Value)} {f : Addr} {args : Args} {binds : List (Str × Value)}
    (X : Kf.In s.heap) (T : Top p lo mean mg mb s.heap)
    (ho : Kf.lookup f = some ⟨oc, od, .func (fnOf name qual params body scope dV kV doc pm an cdv ct), osl⟩) (hcd : codeIn Kf cdv qual = true) (hroom : A.depth < recursionLimit)
    (hbind : BindsTo s (fnOf name qual params body scope dV kV doc pm an cdv ct) args binds) (hloc : ∀ y ∈ binds, scope.names.lookup y.1 = some .local)
    (h : ∀ g L' h₁, (∀ b o, s.heap.get? b = some o → g.get? b = some o) → Fr g L' h₁ (mapOf binds.reverse) → News g L' h₁ [] → Kf.In g → Top p lo mean mg mb g →
      wpN (model prog w) (A.deeper (envOf qual scope L' f cdv)) (execs body (envOf qual scope L' f cdv))
        (fun fl s' => R (.ok (.ret (match fl with | .ret v => v | _ => .none))) s')
        (fun e s' => wpAny (model prog w) (A.deeper (envOf qual scope L' f cdv)) (leaving (envOf qual scope L' f cdv) e) (fun _ s'' => R (.error e) s'') (fun e' s'' => R (.error e') s'') s')
        { s with heap := h₁, toks := s.toks + binds.length })
    (hco : scope.isCoroutine = false) (hgen : scope.isGenerator = false) (hk : scope.kind = .function)
    (hcell : ∀ x ∈ scope.names, x.2 ≠ .cell) : codeN (model prog w) A (.call (.ref f) args) R s :=
  codeN_defQ X T ho hcd hroom hbind hloc (fun g L' h₁ a F => by rw [mapOf_lookup] at F; exact h g L' h₁ a F) hco hgen hk hcell
theorem code_defR {prog : Program} {A : Around} {Kf : Frag} {R : Result → Shared → Prop} {name qual : Str} {params : Arguments} {body : List Stmt} {scope : Scope} {dV kV doc pm cdv ct oc : Value} {an od : Option Addr} {osl : Array (Option Value)} {f : Addr} {args : Args} {binds : List (Str × Value)}
    (X : Kf.In s.heap) (T : Top p lo mean mg mb s.heap)
    (ho : Kf.lookup f = some ⟨oc, od, .func (fnOf name qual params body scope dV kV doc pm an cdv ct), osl⟩) (hcd : codeIn Kf cdv qual = true) (hroom : A.depth < recursionLimit)
    (hbind : BindsTo s (fnOf name qual params body scope dV kV doc pm an cdv ct) args binds) (hloc : ∀ y ∈ binds, scope.names.lookup y.1 = some .local)
    (h : ∀ g L' h₁, (∀ b o, s.heap.get? b = some o → g.get? b = some o) → Fr g L' h₁ (mapOf binds.reverse) → News g L' h₁ [] → Kf.In g → Top p lo mean mg mb g →
      wpAny (model prog w) (A.deeper (envOf qual scope L' f cdv)) (execs body (envOf qual scope L' f cdv))
        (fun fl s' => R (.ok (.ret (match fl with | .ret v => v | _ => .none))) s')
        (fun e s' => wpAny (model prog w) (A.deeper (envOf qual scope L' f cdv)) (leaving (envOf qual scope L' f cdv) e) (fun _ s'' => R (.error e) s'') (fun e' s'' => R (.error e') s'') s')
        { s with heap := h₁, toks := s.toks + binds.length })
    (hco : scope.isCoroutine = false) (hgen : scope.isGenerator = false) (hk : scope.kind = .function)
    (hcell : ∀ x ∈ scope.names, x.2 ≠ .cell) : codeAny (model prog w) A (.call (.ref f) args) R s :=
  code_defQ X T ho hcd hroom hbind hloc (fun g L' h₁ a F => by rw [mapOf_lookup] at F; exact h g L' h₁ a F) hco hgen hk hcell
section
variable {prog : Program} {A : Around} {env : Env} {x : Str} {body : List Stmt} {QF : Flow → Shared → Prop}
theorem iter_rangeJ {r : Addr} {a₀ b₀ c₀ : Int} {t₀ u₀ v₀ : Tok} {n : Nat} {m₀ : Str → Option Value} (J : Nat → (Str → Option Value) → List (Addr × Obj) → Prop)
    (hh : A.handled = none) (hr : IsRange s.heap r a₀ b₀ c₀ t₀ u₀ v₀) (hsmall : Builtin.Range.small a₀ b₀ c₀ = true) (hn : Builtin.Range.rangeSize a₀ b₀ c₀ = (n : Int)) (F : Fr h₀ env.locals s.heap m₀) (N : News h₀ env.locals s.heap news) (hj : J 0 m₀ news)
    (turn : ∀ (i : Nat) t m₁ nx h tk own, i < n → nx.map (·.1) = news.map (·.1) → OwnOff own (news.map (·.1)) → J i m₁ nx → Fr h₀ env.locals h (fun y => if y = x then some (.int (a₀ + i * c₀) t) else m₁ y) → News h₀ env.locals h (nx ++ own) →
      wpAny (model prog w) A (execs body env) (InvPostN h₀ env.locals (J (i + 1)) own (news.map (·.1)) { s with heap := h, toks := tk } QF) E { s with heap := h, toks := tk })
    (done : ∀ m₁ nx h tk, J n m₁ nx → Fr h₀ env.locals h m₁ → News h₀ env.locals h nx → QF .next { s with heap := h, toks := tk }) :
    wpAny (model prog w) A (pyIter (.ref r)) (fun it s₂ => LoopAtV prog w A h₀ env x body QF E it s₂) E s := by
  refine wpAny_pyIter_range hr hsmall ?_
  have W := Walks.range (prog := prog) (w := w) (A := A) hh s.heap.objs.size a₀ c₀ n
  refine loop_invN J W ?_ ?_ ?_ ?_ (by show IsRangeIter _ _ _ _ _; rw [hn]; simpa using Heap.get?_push_size _ rfl) (F.push _) (fun p hp => ⟨Heap.get?_push_of_some _ (N p hp).1, (N p hp).2⟩) hj ?_ ?_
  · intro hm
    exact absurd F.ns.lt ((List.mem_singleton.mp hm) ▸ Nat.lt_irrefl _)
  · intro b hb
    rw [List.mem_singleton.mp hb]
    exact next_is_new F
  · intro p hp hI
    exact absurd (Heap.lt_size (N p hp).1) ((List.mem_singleton.mp hI) ▸ Nat.lt_irrefl _)
  · intro p hp hI
    exact absurd (Heap.lt_size (N p hp).1) ((List.mem_singleton.mp hI) ▸ Nat.lt_irrefl _)
  · rintro i v m₁ nx h tk own hi ⟨t, rfl⟩ ha ho hJ F' N'
    exact turn i t m₁ nx h tk own hi ha ho hJ F' N'
  · intro m₁ nx h tk hJ F' N'
    exact done m₁ nx h tk hJ F' N'
end
theorem range_small_of {a b c : Int} (h1 : -100000 ≤ a ∧ a ≤ 100000) (h2 : -100000 ≤ b ∧ b ≤ 100000) (h3 : 1 ≤ c ∧ c ≤ 100000) : Builtin.Range.small a b c = true := by
  have hr : 0 ≤ Builtin.Range.rangeSize a b c ∧ Builtin.Range.rangeSize a b c ≤ 300000 := by
    unfold Builtin.Range.rangeSize
    rw [if_pos (by omega)]
    split
    · have h4 : 0 ≤ (b - a - 1) / c := Int.ediv_nonneg (by omega) (by omega)
      have h5 : (b - a - 1) / c ≤ b - a - 1 := Int.ediv_le_self _ (by omega)
      omega
    · omega
  unfold Builtin.Range.small Builtin.Range.rangeFitsLong
  rw [if_pos (by omega)]
  simp only [Bool.and_eq_true, decide_eq_true_eq, Bool.or_eq_true]
  refine ⟨⟨⟨⟨?_, ?_⟩, ?_⟩, ?_⟩, .inr ?_⟩ <;> omega
def fillB (l : List UInt8) (k : Nat) : Array UInt8 := (List.replicate (l.length - k) 0 ++ (l.take k).reverse).toArray
theorem fillB_zero (l : List UInt8) : fillB l 0 = Array.replicate l.length 0 := by simp [fillB]
theorem fillB_end (l : List UInt8) : fillB l l.length = l.reverse.toArray := by simp [fillB]
theorem fillB_size (l : List UInt8) (k : Nat) (h : k ≤ l.length) : (fillB l k).size = l.length := by simp [fillB]; omega
theorem fillB_step (l : List UInt8) (k : Nat) (h : k < l.length) (v : UInt8) (hv : v = l.getD k 0) : (fillB l k).setIfInBounds (l.length - 1 - k) v = fillB l (k + 1) := by
  have e1 : l.length - k = (l.length - (k + 1)) + 1 := by omega
  have e2 : l.length - 1 - k = l.length - (k + 1) := by omega
  have e3 : l.take (k + 1) = l.take k ++ [v] := by
    rw [List.take_add_one, hv]
    simp [h]
  unfold fillB
  rw [e1, e2, e3, List.replicate_succ', List.setIfInBounds_toArray]
  congr 1
  rw [List.append_assoc, List.set_append_right _ _ (by simp)]
  simp
local macro_rules | `(tactic| walk_at "subscriptTail") => `(tactic| (k_here; (with_reducible show wpAny _ _ (subscriptTail _ _ (Value.bytes (List.toArray _) _) (Value.int _ _)) _ _ _); k_dflt (refine' bytes_item_K ?f ?a ?b ?e ?_; (case f | a | b => omega); (case e => exact rfl); k_whole)))
section
variable {l : List UInt8} {tb tw : Tok} {n : Int}
theorem byteswap_spec {A : Around} (X : (K w.params).In s.heap) (T : Top p lo mean mg mb s.heap) (hh : A.handled = none) (hd : A.depth + 10 < recursionLimit) (hu : A.units + 50 < cLine) (hb : l.length ≤ 1000)
    (hn : n = if l.length = 0 then 1 else (l.length : Int))
    (hret : ∀ (t : Tok) (h' : Heap) (tk' : Nat), (∀ a o, s.heap.get? a = some o → h'.get? a = some o) → Q (.bytes l.reverse.toArray t) { s with heap := h', toks := tk' }) :
    wpN (model PySem.Challenge.rw_op0211_01.row.toRowW.prog w) A (call (.ref 775) [.bytes l.toArray tb, .int n tw]) Q E s := by
  revert X; k_fill; intro X
  refine wpN_call ?_
  have hsz : l.toArray.size ≤ 1000 := by simpa using hb
  have esz : l.toArray.size = l.length := by simp
  (refine' codeN_defR (binds := [(Str.ofString "data", .bytes l.toArray tb), (Str.ofString "width", .int n tw)]) ?k3 ?k5 ?k6 ?k7 ?k8 ?k9 ?kB ?_ ?c2 ?c3 ?c4 ?c5; (case k3 => k_asm); (case k5 => k_asm); (case k6 => k_is); (case k7 => k_is); (case k8 => k_room); (case k9 => first | exact BindsTo.of_eq rfl | exact binds_K (by k_in) rfl (by k_is) rfl rfl rfl); (case c5 => decide); (case kB => exact locs rfl); (case c2 => exact rfl); (case c3 => exact rfl); (case c4 => exact rfl); k_whole; intro g1 L1 h1 FG1 F1 N1 X1 T1; (try dsimp only); (simp only [List.reverse_cons, List.reverse_nil, List.nil_append, List.cons_append, mapOf_cons, mapOf_nil] at F1); (try k_fold))
  have hlen : (l.toArray.size : Int) ≤ 1000 := by omega
  refine execsN_cons ?_
  refine execN_Assign ?_
  refine evalN_Call ?_
  k_steps
  refine callWithN_T ?_
  k_steps
  rename News _ _ _ _ => N9
  rename Fr _ _ _ _ => F9
  refine call_ba F9 N9 (by omega) (by omega) ?_
  intro x h2 F2 N2 lx
  clear N9 F9
  have e0 : Array.replicate (l.toArray.size : Int).toNat (0 : UInt8) = fillB l 0 := by rw [fillB_zero, esz]; rfl
  rw [e0] at N2
  k_steps
  refine wpN_any ?_
  k_steps
  rename IsRange _ _ _ _ _ _ _ _ => R3
  rename Fr g1 L1 _ _ => F3
  rename News g1 L1 _ _ => N3
  refine iter_rangeJ (n := if l.length = 0 then 0 else 1) (fun i m nx => ∃ vi vj, m = (fun y => if y = Str.ofString "j" then vj else if y = Str.ofString "i" then vi else if y = Str.ofString "swapped_data" then some (Value.ref x) else if y = Str.ofString "width" then some (.int n tw) else if y = Str.ofString "data" then some (.bytes l.toArray tb) else none) ∧ nx = [(x, baO (fillB l (if i = 0 then 0 else l.length)))]) ?hh R3 ?hs ?hn F3 N3 ?hj ?turn ?done
  case hh => exact hh
  case hs =>
    rw [esz]
    refine range_small_of ?_ ?_ ?_ <;> omega
  case hn =>
    rw [esz, hn]
    unfold Builtin.Range.rangeSize
    by_cases h0 : l.length = 0
    · simp [h0]
    · have h1 : ¬ ((l.length : Int) = 0) := by omega
      have h2 : (0 : Int) < l.length := by omega
      have h3 : ((l.length : Int) - 0 - 1) / l.length = 0 := Int.ediv_eq_zero_of_lt (by omega) (by omega)
      simp only [if_neg h0]
      simp only [h2, if_pos, gt_iff_lt, h3]
      rfl
  case hj =>
    refine ⟨none, none, ?_, by simp⟩
    funext y
    by_cases h1 : y = Str.ofString "j"
    · subst h1
      simp only [if_pos, if_neg (show ¬ (Str.ofString "j" = Str.ofString "swapped_data") by decide +kernel), if_neg (show ¬ (Str.ofString "j" = Str.ofString "width") by decide +kernel), if_neg (show ¬ (Str.ofString "j" = Str.ofString "data") by decide +kernel)]
    · by_cases h2 : y = Str.ofString "i"
      · subst h2
        simp only [if_pos, if_neg h1, if_neg (show ¬ (Str.ofString "i" = Str.ofString "swapped_data") by decide +kernel), if_neg (show ¬ (Str.ofString "i" = Str.ofString "width") by decide +kernel), if_neg (show ¬ (Str.ofString "i" = Str.ofString "data") by decide +kernel)]
      · simp [h1, h2]
  case turn =>
    rintro i t m₁ nx h3 tk own hi - ho ⟨vi, vj, rfl, rfl⟩ F4 N4
    clear F3 N3 R3
    have hl0 : ¬ (l.length = 0) := by intro h; rw [if_pos h] at hi; omega
    rw [if_neg hl0] at hi hn
    have : i = 0 := by omega
    subst this
    subst hn
    simp only [if_pos, List.cons_append, List.nil_append] at N4
    k_steps
    rename IsRange _ _ _ _ _ _ _ _ => R5
    rename Fr g1 _ _ _ => F5
    rename News g1 _ _ _ => N5
    refine iter_rangeJ (n := l.length) (fun k m nx => ∃ vj, m = (fun y => if y = Str.ofString "j" then vj else if y = Str.ofString "i" then some (.int (0 + ((0 : Nat) : Int) * l.length) t) else if y = Str.ofString "swapped_data" then some (Value.ref x) else if y = Str.ofString "width" then some (.int l.length tw) else if y = Str.ofString "data" then some (.bytes l.toArray tb) else none) ∧ nx = (x, baO (fillB l k)) :: own) hh R5 ?hs2 ?hn2 F5 N5 ?hj2 ?turn2 ?done2
    case hs2 => refine range_small_of ?_ ?_ ?_ <;> omega
    case hn2 =>
      unfold Builtin.Range.rangeSize
      have h2 : (0 : Int) < l.length := by omega
      simp only [h2, if_pos, gt_iff_lt, show (0 : Int) < 1 by decide, Int.ediv_one]
      omega
    case hj2 =>
      refine ⟨vj, ?_, rfl⟩
      funext y
      by_cases h1 : y = Str.ofString "j"
      · subst h1
        simp only [if_pos, if_neg (show ¬ (Str.ofString "j" = Str.ofString "i") by decide +kernel)]
      · by_cases h2 : y = Str.ofString "i"
        · subst h2; simp [h1]
        · simp [h1, h2]
    case turn2 =>
      rintro k t2 m₁ nx h5 tk5 own2 hk - ho2 ⟨vj2, rfl, rfl⟩ F6 N6
      clear F5 N5 R5
      simp only [List.cons_append] at N6
      k_steps
      rename Fr g1 _ _ _ => F7
      rename News g1 _ _ _ => N7
      have hx1 : ∀ q ∈ own ++ own2, q.1 ≠ x := by
        intro q hq
        rcases List.mem_append.mp hq with h | h
        · exact ho q h x (by simp)
        · exact ho2 q h x (by simp)
      have hby := UInt8.toNat_lt (l.getD (0 + ((0 : Nat) : Int) * (l.length : Int) + (0 + (k : Int) * 1)).toNat 0)
      refine ba_setItem F7 N7 hx1 (by omega) (by rw [fillB_size l k (by omega)]; omega) (by rw [fillB_size l k (by omega)]; omega) (by omega) (by omega) ?_
      intro h8 F8 N8
      clear F7 N7
      have ei : (0 + ((0 : Nat) : Int) * (l.length : Int) + (l.length : Int) - 1 - (0 + (k : Int) * 1)).toNat = l.length - 1 - k := by omega
      have ej : (0 + ((0 : Nat) : Int) * (l.length : Int) + (0 + (k : Int) * 1)).toNat = k := by omega
      rw [ei, ej, fillB_step l k hk _ (by simp)] at N8
      k_steps
      refine InvEndN.intro F8 N8 (nx := (x, baO (fillB l (k + 1))) :: own) ⟨some (.int (0 + (k : Int) * 1) t2), ?_, rfl⟩ rfl ?_ ?_
      · funext y
        by_cases h1 : y = Str.ofString "j"
        · simp [h1]
        · simp only [if_neg h1]
      · intro p hp
        rcases List.mem_cons.mp hp with rfl | hp
        · exact .head _
        · exact .tail _ (List.mem_append_left _ hp)
      · intro p hp
        exact .tail _ (List.mem_append_right _ hp)
    case done2 =>
      rintro m₁ nx h5 tk5 ⟨vj2, rfl, rfl⟩ F6 N6
      clear F5 N5 R5
      k_steps
      refine InvEndN.intro F6 N6 (nx := [(x, baO (fillB l l.length))]) ⟨some (.int (0 + ((0 : Nat) : Int) * l.length) t), vj2, rfl, rfl⟩ rfl ?_ ?_
      · intro p hp
        rcases List.mem_cons.mp hp with rfl | hp
        · exact .head _
        · cases hp
      · intro p hp
        exact .tail _ hp
  case done =>
    rintro m₁ nx h3 tk ⟨vi, vj, rfl, rfl⟩ F4 N4
    clear F3 N3 R3
    have ef : fillB l (if (if l.length = 0 then 0 else 1) = 0 then 0 else l.length) = l.reverse.toArray := by
      by_cases h0 : l.length = 0
      · have : l = [] := List.length_eq_zero_iff.mp h0
        subst this; rfl
      · simp only [if_neg h0, Nat.one_ne_zero, if_false]
        exact fillB_end l
    rw [ef] at N4
    k_steps
    rename Fr g1 _ _ _ => F5
    rename News g1 _ _ _ => N5
    refine call_bb F5 N5 (by simp) (by simp; omega) ?_
    intro h6 t6 tk6 F6 N6
    clear F5 N5
    k_steps
    exact hret _ _ _ fun a o e => F6.keep a o (FG1 a o e)
end
end
end
-- W20
section
section
variable {w : World} {p : Program} {lo : List Str} {mean : ExcName → Option Value} {mg mb : Str → Option Value} {dp un : Nat} {gd : Option (List Code)} {A₀ : Around} {env : Env} {outer : List Env} {base h₀ : Heap} {L : Addr} {m : Str → Option Value} {s : Shared} {Q E : Value → Shared → Prop} {news : List (Addr × Obj)}
theorem strs_of_paired {α : Type} {f : α → Str} {l : List α} {ys : List Value} (h : Paired (fun (c : α) r => ∃ t, r = Value.str (f c) t) l ys) : StrsAre ys (l.map f) := by
  induction h with
  | nil => exact .nil
  | cons h _ ih =>
    obtain ⟨t, rfl⟩ := h
    exact .cons _ _ ih
theorem joinE (l : List Nat) : (Txt.join (Str.ofString "") (l.map fun c => (⟨#[c]⟩ : Str))).cps.toList = l := by
  have key : ∀ (ws : List Nat) (acc : Array Nat), ((ws.map fun c => (⟨#[c]⟩ : Str)).foldl (fun acc p => acc ++ (Str.ofString "").cps ++ p.cps) acc).toList = acc.toList ++ ws := by
    intro ws
    induction ws with
    | nil => intro acc; simp
    | cons x r ih =>
      intro acc
      simp only [List.map_cons, List.foldl_cons]
      rw [ih]
      have e : (Str.ofString "").cps = #[] := by decide
      rw [e]
      simp
  cases l with
  | nil => rfl
  | cons x r =>
    (show (((r.map fun c => (⟨#[c]⟩ : Str))).foldl (fun acc p => acc ++ (Str.ofString "").cps ++ p.cps) #[x]).toList = _)
    rw [key]
    simp
theorem ints_of_paired {l : List Nat} {ys : List Value} (h : Paired (fun (c : Nat) r => ∃ t, r = Value.int (c : Int) t) l ys) : IntsAre ys (l.map fun (c : Nat) => (c : Int)) := by
  induction h with
  | nil => exact .nil
  | cons h _ ih =>
    obtain ⟨t, rfl⟩ := h
    exact .cons _ _ ih
section
variable {b : Str} {tb : Tok}
theorem turned_spec {A : Around} (X : (K w.params).In s.heap) (T : Top p lo mean mg mb s.heap) (hh : A.handled = none) (hd : A.depth + 20 < recursionLimit) (hu : A.units + 90 < cLine) (hb : b.cps.size ≤ 500)
    (hc : ∀ c ∈ b.cps.toList, c < 256)
    (hret : ∀ (r : Str) (t : Tok) (h' : Heap) (tk' : Nat), r.cps.toList = b.cps.toList.reverse → (∀ a o, s.heap.get? a = some o → h'.get? a = some o) → Q (.str r t) { s with heap := h', toks := tk' }) :
    wpN (model PySem.Challenge.rw_op0211_01.row.toRowW.prog w) A (call (.ref 785) [.str b tb]) Q E s := by
  have hl : b.length ≤ 16777216 := by (have e : b.length = b.cps.size := rfl); omega
  have hl2 : b.length ≤ 1048576 := by (have e : b.length = b.cps.size := rfl); omega
  revert X; k_fill; intro X
  refine wpN_call ?_
  (refine' codeN_defR (binds := [(Str.ofString "text", .str b tb)]) ?k3 ?k5 ?k6 ?k7 ?k8 ?k9 ?kB ?_ ?c2 ?c3 ?c4 ?c5; (case k3 => k_asm); (case k5 => k_asm); (case k6 => k_is); (case k7 => k_is); (case k8 => k_room); (case k9 => first | exact BindsTo.of_eq rfl | exact binds_K (by k_in) rfl (by k_is) rfl rfl rfl); (case c5 => decide); (case kB => exact locs rfl); (case c2 => exact rfl); (case c3 => exact rfl); (case c4 => exact rfl); k_whole; intro g1 L1 h1 FG1 F1 N1 X1 T1; (try dsimp only); (simp only [List.reverse_cons, List.reverse_nil, List.nil_append, List.cons_append, mapOf_cons, mapOf_nil] at F1); (try k_fold))
  refine execsN_cons ?_
  refine execN_Assign ?_
  refine evalN_Call ?_
  k_steps
  refine callWithN_K (K := K w.params) (by kernel_rfl) ?_
  k_steps
  rename Fr g1 L1 _ _ => F2
  rename News g1 L1 _ _ => N2
  refine src_str (h₀ := g1) hh F2 N2 (by omega) (fun (c : Nat) r => ∃ t, r = Value.int (c : Int) t) ?_ ?_
  · intro C c u s₂ m₂ E' hc' hn hm hk
    have kk : ∀ b o, g1.get? b = some o → s₂.heap.get? b = some o := fun b o e => hk b o (F2.keep b o e)
    refine elt_bi (X1.keeps kk) (T1.keeps kk) (by k_is) (by boot_by_name) (by decide) (by decide) (by decide) rfl rfl rfl rfl rfl hn hm ?_
    exact PySem.P.ord_of_char ⟨⟨_, rfl⟩, _, _, rfl, fun _ _ e => e⟩
  intro D ys c h' tk F3 N3 hne hP
  clear F2 N2
  k_steps
  rename Fr g1 L1 _ _ => F4
  rename News g1 L1 _ _ => N4
  have hI : IntsAre ys.toList (b.cps.toList.map fun (c : Nat) => (c : Int)) := ints_of_paired hP
  have hD := (N4 _ (.head _)).1
  refine call_bytes_ints (l := D) (vs := ys.toList) (ns := b.cps.toList.map fun (c : Nat) => (c : Int)) ⟨_, hD, rfl, c, by simp⟩ hI ?_ ?_ hh ?_
  · intro n hn
    obtain ⟨c, hc', rfl⟩ := List.mem_map.mp hn
    have := hc c hc'
    omega
  · have := hI.length
    rw [this, sizeLine_eq]
    simp
    omega
  intro h4 t4 k4 hk4
  have F5 := F4.keeps hk4
  clear F4 N4 hD
  have N5 : News g1 L1 h4 [] := News.nil
  have eb : byteArr (b.cps.toList.map fun (c : Nat) => (c : Int)) = (b.cps.toList.map fun c => c.toUInt8).toArray := by simp [byteArr]
  rw [eb]
  k_steps
  refine max_two_N (hh := hh) (F := F5) (N := N5) ?_
  clear F5 N5
  intro h6 t6 F6 N6
  k_steps
  have hbl : b.length = b.cps.size := rfl
  refine byteswap_spec (X1.keeps F6.keep) (T1.keeps F6.keep) hh ?_ ?_ ?_ ?_ ?_
  · ktr_room
  · ktr_units
  · simp; omega
  · simp only [List.length_map, Array.length_toList, hbl]
    split <;> split <;> omega
  intro t8 h8 tk8 hk8
  have F8 := F6.keeps hk8
  clear F6 N6
  have N8 : News g1 L1 h8 [] := News.nil
  k_steps
  refine wpN_any ?_
  k_steps
  rename Fr g1 L1 _ _ => F9
  rename News g1 L1 _ _ => N9
  refine src_bytes (h₀ := g1) hh F9 N9 (by simp; omega) (fun (c : UInt8) r => ∃ t, r = Value.str ⟨#[c.toNat]⟩ t) ?_ ?_
  · intro C c u s₂ m₂ E' hc' hn hm hk
    have kk : ∀ b o, g1.get? b = some o → s₂.heap.get? b = some o := fun b o e => hk b o (F9.keep b o e)
    refine elt_bi (X1.keeps kk) (T1.keeps kk) (by k_is) (by boot_by_name) (by decide) (by decide) (by decide) rfl rfl rfl rfl rfl hn hm ?_
    refine PySem.P.chr_of_int ?_ ?_
    · have := UInt8.toNat_lt c
      simp
      omega
    · rw [Int.toNat_natCast]
      exact ⟨⟨_, rfl⟩, _, _, rfl, fun _ _ e => e⟩
  intro D2 ys2 c2 h10 tk10 F10 N10 hne2 hP2
  clear F9 N9
  k_steps
  have hS : StrsAre ys2.toList (((List.map (fun c => c.toUInt8) b.cps.toList).reverse).map fun (c : UInt8) => (⟨#[c.toNat]⟩ : Str)) := strs_of_paired hP2
  have hD2 := (N10 _ (.head _)).1
  refine join_list (items := ys2) ⟨_, hD2, rfl, c2, rfl⟩ hS ?_ ?_
  · have e1 : ∀ l : List UInt8, ((l.map fun (c : UInt8) => (⟨#[c.toNat]⟩ : Str)).map (·.length)).sum = l.length := by
      intro l
      induction l with
      | nil => rfl
      | cons a l ih =>
        simp only [List.map_cons, List.sum_cons, List.length_cons]
        rw [ih]
        (show 1 + l.length = l.length + 1)
        omega
    rw [e1]
    have e2 : (Str.ofString "").length = 0 := by decide
    rw [e2]
    simp
    omega
  intro t11 k11
  refine hret _ _ _ _ ?_ fun a o e => F10.keep a o (FG1 a o e)
  have e3 : (((List.map (fun c => c.toUInt8) b.cps.toList).reverse).map fun (c : UInt8) => (⟨#[c.toNat]⟩ : Str)) = b.cps.toList.reverse.map fun c => (⟨#[c]⟩ : Str) := by
    rw [List.map_reverse, List.map_map, List.map_reverse]
    congr 1
    apply List.map_congr_left
    intro a ha
    have := hc a ha
    simp [Nat.toUInt8, Nat.mod_eq_of_lt this]
  rw [e3]
  exact joinE _
end
end
end
-- W22
section
section
variable {w : World} {p : Program} {lo : List Str} {mean : ExcName → Option Value} {mg mb : Str → Option Value} {dp un : Nat} {gd : Option (List Code)} {A₀ : Around} {env : Env} {outer : List Env} {base h₀ : Heap} {L : Addr} {m : Str → Option Value} {s : Shared} {Q E : Value → Shared → Prop} {news : List (Addr × Obj)}
theorem push_list {h₀ h : Heap} {L : Addr} {m : Str → Option Value} {news : List (Addr × Obj)} (F : Fr h₀ L h m) (N : News h₀ L h news) (v : Value) : Fr h₀ L (h.push (lsO #[v] 0)) m ∧ News h₀ L (h.push (lsO #[v] 0)) ((h.objs.size, lsO #[v] 0) :: news) := by
  have kp : ∀ b o, h.get? b = some o → (h.push (lsO #[v] 0)).get? b = some o := fun b o e => Heap.get?_push_of_some _ e
  refine ⟨F.keeps kp, ?_⟩
  intro q hq
  rcases List.mem_cons.mp hq with rfl | hq
  · refine ⟨Heap.get?_push_size _ rfl, Ne.symm (Nat.ne_of_lt F.ns.lt), ?_⟩
    cases e : h₀.get? h.objs.size with
    | none => rfl
    | some o => exact absurd (Heap.lt_size (F.keep _ _ e)) (Nat.lt_irrefl _)
  · exact ⟨kp _ _ (N q hq).1, (N q hq).2⟩
theorem pick_up (vs : List Value) (k : Nat) : (slicePick vs.toArray none (some (k : Int)) none).toList = vs.take k := by
  rw [kms_pick_eq]
  unfold kms_pick kms_lo kms_hi
  have : ¬ ((k : Int) < 0) := by omega
  simp only [if_neg this, Int.toNat_natCast, List.drop_zero, Nat.sub_zero]
  exact kmk_take_min _ _
theorem pick_from (vs : List Value) (k : Nat) (h : k ≤ vs.length) : (slicePick vs.toArray (some (k : Int)) none none).toList = vs.drop k := by
  rw [kms_pick_eq]
  unfold kms_pick kms_lo kms_hi
  have : ¬ ((k : Int) < 0) := by omega
  simp only [if_neg this, Int.toNat_natCast, Nat.min_eq_left h]
  rw [List.take_of_length_le (by simp)]
section
variable {b : Str} {tb : Tok} {tv : Value} {F0 : Option Forest}
theorem grown_some {A : Around} {a : Addr} {c : Nat} {vs : List Value} {F : Forest} {P : Addr → Prop} (hP : ∀ a, s.heap.get? a = none → P a) (X : (K w.params).In s.heap) (T : Top p lo mean mg mb s.heap) (hh : A.handled = none) (hd : A.depth + 30 < recursionLimit) (hu : A.units + 150 < cLine) (hb : b.cps.size ≤ 3)
    (hc : ∀ c ∈ b.cps.toList, c < 256) (ha : s.heap.get? a = some (lsO vs.toArray c)) (hv : vs.length ≤ 100)
    (hF : FV (InP P s.heap) vs F)
    (hret : ∀ (v : Value) (h' : Heap) (tk' : Nat), OV (InP P h') v (grown (some F) b.cps.toList) → (∀ a o, s.heap.get? a = some o → h'.get? a = some o) → Q v { s with heap := h', toks := tk' }) :
    wpN (model PySem.Challenge.rw_op0211_01.row.toRowW.prog w) A (call (.ref 792) [.ref a, .str b tb]) Q E s := by
  have hl : b.length ≤ 16777216 := by (have e : b.length = b.cps.size := rfl); omega
  have hl2 : b.length ≤ 1048576 := by (have e : b.length = b.cps.size := rfl); omega
  revert X; k_fill; intro X
  refine wpN_call ?_
  (refine' codeN_defR (binds := [(Str.ofString "trees", .ref a), (Str.ofString "word", .str b tb)]) ?k3 ?k5 ?k6 ?k7 ?k8 ?k9 ?kB ?_ ?c2 ?c3 ?c4 ?c5; (case k3 => k_asm); (case k5 => k_asm); (case k6 => k_is); (case k7 => k_is); (case k8 => k_room); (case k9 => first | exact BindsTo.of_eq rfl | exact binds_K (by k_in) rfl (by k_is) rfl rfl rfl); (case c5 => decide); (case kB => exact locs rfl); (case c2 => exact rfl); (case c3 => exact rfl); (case c4 => exact rfl); k_whole; intro g1 L1 h1 FG1 F1 N1 X1 T1; (try dsimp only); (simp only [List.reverse_cons, List.reverse_nil, List.nil_append, List.cons_append, mapOf_cons, mapOf_nil] at F1); (try k_fold))
  have hL : g1.IsList a vs.toArray := ⟨_, FG1 _ _ ha, rfl, c, rfl⟩
  have hvs : vs.length ≤ 16777216 := by omega
  have hbl : b.length = b.cps.size := rfl
  have hgw : b.cps.toList.length = b.cps.size := by simp
  refine execsN_cons ?_
  refine execN_If ?_
  k_steps
  rename Fr g1 L1 _ _ => F2
  refine len_list (items := vs.toArray) (hL.at fun o e => F2.keep _ _ e) (by simp; omega) ?_
  k_steps
  · rename (vs.toArray.size : Int) < (b.length : Int) => hlt
    have hlt2 : vs.length < b.cps.size := by simp at hlt; omega
    refine wpN_any ?_
    k_steps
    refine hret _ _ _ ?_ fun a o e => F2.keep a o (FG1 a o e)
    have eg : grown (some F) b.cps.toList = none := by
      (show (if F.len < b.cps.toList.length then none else _) = none)
      rw [if_pos (by rw [← hF.length, hgw]; exact hlt2)]
    rw [eg]
    exact .none
  · rename ¬ ((vs.toArray.size : Int) < (b.length : Int)) => hlt
    have hlt2 : b.cps.size ≤ vs.length := by simp at hlt; omega
    refine wpN_any (wpAny_execs_nil (Q := _) ?_)
    refine execsN_cons ?_
    refine execN_Return ?_
    refine evalN_BinOp ?_
    refine evalN_List1 ?_ (by rfl)
    refine evalN_BinOp ?_
    refine evalN_List1 ?_ (by rfl)
    refine evalN_Call ?_
    k_steps
    refine callWithN_K (K := K w.params) (by kernel_rfl) ?_
    k_steps
    refine turned_spec (X1.keeps F2.keep) (T1.keeps F2.keep) hh ?_ ?_ ?_ hc ?_
    · ktr_room
    · ktr_units
    · omega
    intro r3 t3 h3 tk3 hr3 hk3
    have F3 := F2.keeps hk3
    have N3 : News g1 L1 h3 [] := News.nil
    clear F2
    k_steps
    refine wpN_any ?_
    obtain ⟨F4, N4⟩ := push_list F3 N3 (.str r3 t3)
    dsimp only
    generalize h3.objs.size = S3 at N4 ⊢
    generalize h3.push (lsO #[Value.str r3 t3] 0) = h4 at F4 N4 ⊢
    clear F3 N3
    k_steps
    rename News g1 L1 _ _ => N5
    rename Fr g1 L1 _ _ => F5
    rw [hbl] at N5
    refine kmk_add_lit F5 N5 (News.isList N5 (.tail _ (.head _))) (News.isList N5 (.head _)) rfl ?_ (by rw [pick_up, sizeLine_eq]; simp; omega)
    intro D6 h6 F6 N6 l6
    rw [pick_up] at N6
    replace N6 : News g1 L1 h6 [(D6, lsO (Value.str r3 t3 :: vs.take b.cps.size).toArray 0)] := cb_drop N6 (by intro q hq; rw [List.mem_singleton.mp hq]; exact .head _)
    clear F5 N5
    refine wpN_any ?_
    obtain ⟨F7, N7⟩ := push_list F6 N6 (.ref D6)
    dsimp only
    generalize h6.objs.size = S7 at N7 ⊢
    generalize h6.push (lsO #[Value.ref D6] 0) = h7 at F7 N7 ⊢
    clear F6 N6
    k_steps
    rename News g1 L1 _ _ => N8
    rename Fr g1 L1 _ _ => F8
    rw [hbl] at N8
    refine kmk_add_lit F8 N8 (News.isList N8 (.tail _ (.head _))) (News.isList N8 (.head _)) rfl ?_ (by rw [pick_from _ _ hlt2, sizeLine_eq]; simp; omega)
    intro D9 h9 F9 N9 l9
    rw [pick_from _ _ hlt2] at N9
    refine hret _ _ _ ?_ fun a o e => F9.keep a o (FG1 a o e)
    have eg : grown (some F) b.cps.toList = some (.cons b.cps.toList.reverse (F.take b.cps.size) (F.drop b.cps.size)) := by
      (show (if F.len < b.cps.toList.length then none else some (Forest.cons b.cps.toList.reverse (F.take b.cps.toList.length) (F.drop b.cps.toList.length))) = _)
      rw [if_neg (by rw [← hF.length, hgw]; omega), hgw]
    rw [eg]
    have hF9 : FV (InP P h9) vs F := hF.mono fun a o e => ⟨F9.keep a o (FG1 a o e.1), e.2⟩
    have z1 := N9 _ (.head _)
    have z2 := N9 _ (.tail _ (.tail _ (.tail _ (.head _))))
    exact .some ⟨z1.1, hP _ (get_none_of FG1 z1.2.2)⟩ (.cons ⟨z2.1, hP _ (get_none_of FG1 z2.2.2)⟩ hr3 (hF9.take _) (hF9.drop _))
end
end
end
-- W23
section
section
variable {w : World} {p : Program} {lo : List Str} {mean : ExcName → Option Value} {mg mb : Str → Option Value} {dp un : Nat} {gd : Option (List Code)} {A₀ : Around} {env : Env} {outer : List Env} {base h₀ : Heap} {L : Addr} {m : Str → Option Value} {s : Shared} {Q E : Value → Shared → Prop} {news : List (Addr × Obj)}
section
variable {b : Str} {tb : Tok}
theorem grown_none {A : Around} (X : (K w.params).In s.heap) (T : Top p lo mean mg mb s.heap) (hh : A.handled = none) (hd : A.depth + 30 < recursionLimit) (hu : A.units + 150 < cLine)
    (hret : ∀ (h' : Heap) (tk' : Nat), (∀ a o, s.heap.get? a = some o → h'.get? a = some o) → Q .none { s with heap := h', toks := tk' }) :
    wpN (model PySem.Challenge.rw_op0211_01.row.toRowW.prog w) A (call (.ref 792) [.none, .str b tb]) Q E s := by
  revert X; k_fill; intro X
  refine wpN_call ?_
  (refine' codeN_defR (binds := [(Str.ofString "trees", .none), (Str.ofString "word", .str b tb)]) ?k3 ?k5 ?k6 ?k7 ?k8 ?k9 ?kB ?_ ?c2 ?c3 ?c4 ?c5; (case k3 => k_asm); (case k5 => k_asm); (case k6 => k_is); (case k7 => k_is); (case k8 => k_room); (case k9 => first | exact BindsTo.of_eq rfl | exact binds_K (by k_in) rfl (by k_is) rfl rfl rfl); (case c5 => decide); (case kB => exact locs rfl); (case c2 => exact rfl); (case c3 => exact rfl); (case c4 => exact rfl); k_whole; intro g1 L1 h1 FG1 F1 N1 X1 T1; (try dsimp only); (simp only [List.reverse_cons, List.reverse_nil, List.nil_append, List.cons_append, mapOf_cons, mapOf_nil] at F1); (try k_fold))
  refine execsN_cons ?_
  refine execN_If ?_
  k_steps
  refine wpN_any ?_
  k_steps
  rename Fr g1 L1 _ _ => F2
  exact hret _ _ fun a o e => F2.keep a o (FG1 a o e)
theorem grown_spec {A : Around} {tv : Value} {F0 : Option Forest} {P : Addr → Prop} (hP : ∀ a, s.heap.get? a = none → P a) (X : (K w.params).In s.heap) (T : Top p lo mean mg mb s.heap) (hh : A.handled = none) (hd : A.depth + 30 < recursionLimit) (hu : A.units + 150 < cLine) (hb : b.cps.size ≤ 3)
    (hc : ∀ c ∈ b.cps.toList, c < 256) (hF : OV (InP P s.heap) tv F0) (hv : ∀ F, F0 = some F → F.len ≤ 100)
    (hret : ∀ (v : Value) (h' : Heap) (tk' : Nat), OV (InP P h') v (grown F0 b.cps.toList) → (∀ a o, s.heap.get? a = some o → h'.get? a = some o) → Q v { s with heap := h', toks := tk' }) :
    wpN (model PySem.Challenge.rw_op0211_01.row.toRowW.prog w) A (call (.ref 792) [tv, .str b tb]) Q E s := by
  cases hF with
  | none => exact grown_none X T hh hd hu fun h' tk' k => hret _ _ _ .none k
  | some h1 h2 => exact grown_some hP X T hh hd hu hb hc h1.1 (by rw [h2.length]; exact hv _ rfl) h2 hret
end
end
end
-- W24
section
section
variable {w : World} {p : Program} {lo : List Str} {mean : ExcName → Option Value} {mg mb : Str → Option Value} {dp un : Nat} {gd : Option (List Code)} {A₀ : Around} {env : Env} {outer : List Env} {base h₀ : Heap} {L : Addr} {m : Str → Option Value} {s : Shared} {Q E : Value → Shared → Prop} {news : List (Addr × Obj)}
theorem pick_one (v : Value) (vs : List Value) : slicePick (v :: vs).toArray (some 1) none none = vs.toArray := by
  apply Array.ext'
  have := pick_from (v :: vs) 1 (by simp)
  simpa using this
theorem TV.append {a b : List Value} {x y : List (List Nat)} (h : TV a x) (k : TV b y) : TV (a ++ b) (x ++ y) := by
  induction h with
  | nil => exact k
  | cons h _ ih => exact .cons h ih
abbrev wrMap (a : Addr) (vt : Option Value) (W : Addr) : Str → Option Value := fun y => if y = Str.ofString "tree" then vt else if y = Str.ofString "words" then some (.ref W) else if y = Str.ofString "trees" then some (.ref a) else none
section
theorem written_spec (n : Nat) : ∀ {A : Around} {s : Shared} {Q E : Value → Shared → Prop} {a : Addr} {c : Nat} {vs : List Value} {F : Forest} (X : (K w.params).In s.heap) (T : Top p lo mean mg mb s.heap) (hh : A.handled = none) (hd : A.depth + 3 * n + 10 < recursionLimit) (hu : A.units + 10 * n + 90 < cLine)
    (ha : s.heap.get? a = some (lsO vs.toArray c)) (hF : FV (InH s.heap) vs F) (hs : F.size ≤ n) (hn : n ≤ 1000)
    (hret : ∀ (D : Addr) (ws : List Value) (c' : Nat) (h' : Heap) (tk' : Nat), h'.get? D = some (lsO ws.toArray c') → TV ws F.written → (∀ a o, s.heap.get? a = some o → h'.get? a = some o) → Q (.ref D) { s with heap := h', toks := tk' }),
    wpAny (model PySem.Challenge.rw_op0211_01.row.toRowW.prog w) A (call (.ref 806) [.ref a]) Q E s := by
  induction n using Nat.strongRecOn with
  | ind n ih =>
    intro A s Q E a c vs F X T hh hd hu ha hF hs hn hret
    revert X; k_fill; intro X
    refine wpAny_call ?_
    (refine' code_defR (binds := [(Str.ofString "trees", .ref a)]) ?k3 ?k5 ?k6 ?k7 ?k8 ?k9 ?kB ?_ ?c2 ?c3 ?c4 ?c5; (case k3 => k_asm); (case k5 => k_asm); (case k6 => k_is); (case k7 => k_is); (case k8 => k_room); (case k9 => first | exact BindsTo.of_eq rfl | exact binds_K (by k_in) rfl (by k_is) rfl rfl rfl); (case c5 => decide); (case kB => exact locs rfl); (case c2 => exact rfl); (case c3 => exact rfl); (case c4 => exact rfl); k_whole; intro g1 L1 h1 FG1 F1 N1 X1 T1; (try dsimp only); (simp only [List.reverse_cons, List.reverse_nil, List.nil_append, List.cons_append, mapOf_cons, mapOf_nil] at F1); (try k_fold))
    have hL : g1.IsList a vs.toArray := ⟨_, FG1 _ _ ha, rfl, c, rfl⟩
    have hvl : vs.length ≤ 1000 := by
      have := hF.length
      have := F.len_le_size
      omega
    have hvs : vs.length ≤ 16777216 := by omega
    have hF1 : FV (InH g1) vs F := hF.mono fun a o e => FG1 a o e
    k_steps
    rename News g1 L1 _ _ => N2
    rename Fr g1 L1 _ _ => F2
    refine For_invV g1 (by rfl) (by rfl) ?_ (by intro _; rfl)
    k_steps
    refine iter_listJ (fun i m nx => ∃ vt W ws c, m = wrMap a vt W ∧ nx = [(W, lsO ws.toArray c)] ∧ TV ws (F.take i).written) hh hL F2 N2 ?hj ?turn ?done
    case hj =>
      refine ⟨none, _, [], 0, ?_, rfl, ?_⟩
      · funext y
        by_cases h1 : y = Str.ofString "tree"
        · subst h1
          simp only [wrMap, if_pos, if_neg (show ¬ (Str.ofString "tree" = Str.ofString "words") by decide +kernel), if_neg (show ¬ (Str.ofString "tree" = Str.ofString "trees") by decide +kernel)]
        · simp only [wrMap, if_neg h1]
      · rw [F.take_zero]
        exact .nil
    case turn =>
      rintro i v m₁ nx h3 tk I oI own hv ⟨vt, W, ws, c2, rfl, rfl, hT⟩ hI F3 N3
      clear F2 N2
      obtain ⟨ai, ci, wv, wt, kv, kids, rfl, hai, hk, hw, hks, hkl⟩ := hF1.nth i v hv
      have hLi : g1.IsList ai (Value.str wv wt :: kv).toArray := ⟨_, hai, rfl, ci, rfl⟩
      have hwl : ws.length ≤ 1000 := by
        have : ws.length = (F.take i).written.length := hT.length
        rw [Forest.written_len] at this
        have := F.take_size i
        omega
      k_steps
      rename News g1 _ _ _ => N4
      rename Fr g1 _ _ _ => F4
      refine kmk_add_lit F4 N4 (News.isList N4 (.tail _ (List.mem_append_right _ (.head _)))) (News.isList N4 (.head _)) rfl ?_ (by rw [sizeLine_eq]; simp; omega)
      intro D5 h5 F5 N5 l5
      replace N5 : News g1 L1 h5 ((D5, lsO (ws ++ [Value.str wv wt]).toArray 0) :: own) := by
        refine cb_drop N5 ?_
        intro q hq
        rcases List.mem_cons.mp hq with rfl | hq
        · exact .head _
        · exact .tail _ (.tail _ (List.mem_append_left _ hq))
      clear F4 N4
      have hkv : (Value.str wv wt :: kv).length ≤ 16777216 := by simp; omega
      k_steps
      rename News g1 _ _ _ => N6
      rename Fr g1 _ _ _ => F6
      have hS := (N6 _ (.head _)).1
      rw [pick_one] at hS
      refine ih (n - 1) (by omega) (X1.keeps F6.keep) (T1.keeps F6.keep) hh ?_ ?_ hS (hk.mono fun a o e => F6.keep a o e) (by omega) (by omega) ?_
      · ktr_room
      · ktr_units
      intro D7 ws7 c7 h7 tk7 hD7 hT7 hk7
      have F7 := F6.keeps hk7
      have N7 := News.grown N6 hk7
      clear F6 hS
      have hw7 : ws7.length ≤ 1000 := by
        rw [hT7.length, Forest.written_len]; omega
      refine kmk_add_lit F7 N7 (News.isList N7 (.tail _ (.head _))) ⟨_, hD7, rfl, c7, rfl⟩ rfl ?_ (by rw [sizeLine_eq]; simp; omega)
      intro D8 h8 F8 N8 l8
      have hDI : D8 ≠ I := Ne.symm (Nat.ne_of_lt (l8 _ (.tail _ (.tail _ hI))))
      replace N8 : News g1 L1 h8 ((D8, lsO ((ws ++ [Value.str wv wt]) ++ ws7).toArray 0) :: own) := by
        refine cb_drop N8 ?_
        intro q hq
        rcases List.mem_cons.mp hq with rfl | hq
        · exact .head _
        · exact .tail _ (.tail _ (.tail _ hq))
      clear F7 N7 N6
      k_steps
      rename News g1 L1 _ _ => N9
      rename Fr g1 L1 _ _ => F9
      refine ⟨_, _, _, [(D8, lsO ((ws ++ [Value.str wv wt]) ++ ws7).toArray 0)], rfl, F9, ?_, ?_, some (.ref ai), D8, (ws ++ [Value.str wv wt]) ++ ws7, 0, ?_, rfl, ?_⟩
      · refine cb_drop N9 ?_
        intro q hq
        rcases List.mem_append.mp hq with hq | hq
        · exact .tail _ hq
        · rw [List.mem_singleton.mp hq]; exact .head _
      · intro q hq
        rw [List.mem_singleton.mp hq]
        exact hDI
      · funext y
        by_cases h1 : y = Str.ofString "words"
        · subst h1
          simp only [wrMap, if_pos, if_neg (show ¬ (Str.ofString "words" = Str.ofString "tree") by decide +kernel)]
        · by_cases h2 : y = Str.ofString "tree"
          · simp only [wrMap, if_neg h1, if_pos h2]
          · simp only [wrMap, if_neg h1, if_neg h2]
      · rw [hw]
        have := hT.append (TV.append (.cons ⟨wv, wt, rfl, rfl⟩ .nil) hT7)
        simpa using this
    case done =>
      rintro m₁ nx h3 tk ⟨vt, W, ws, c2, rfl, rfl, hT⟩ F3 N3
      clear F2 N2
      k_steps
      rw [← hF.length.symm, F.take_len] at hT
      exact hret W ws c2 _ _ (N3 _ (.head _)).1 hT fun a o e => F3.keep a o (FG1 a o e)
end
end
end
-- W25
section
section
variable {w : World} {p : Program} {lo : List Str} {mean : ExcName → Option Value} {mg mb : Str → Option Value} {dp un : Nat} {gd : Option (List Code)} {A₀ : Around} {env : Env} {outer : List Env} {base h₀ : Heap} {L : Addr} {m : Str → Option Value} {s : Shared} {Q E : Value → Shared → Prop} {news : List (Addr × Obj)}
abbrev liO (l : Addr) (i : Int) : Obj := { cls := .type "list_iterator", data := .fields #[.ref l, .int i 0] }
theorem call_iter_list {prog : Program} {A : Around} {l : Addr} {items : Array Value} (F : Fr h₀ L s.heap m) (N : News h₀ L s.heap news) (hl : s.heap.IsList l items)
    (h : ∀ (I : Addr) (h' : Heap), Fr h₀ L h' m → News h₀ L h' ((I, liO l 0) :: news) → (∀ q ∈ news, @LT.lt Nat _ q.1 I) → Q (.ref I) { s with heap := h' }) : wpAny (model prog w) A (call (.builtin "iter") [.ref l]) Q E s := by
  refine call_function_entry (by decide +kernel) (by decide +kernel) kdk_entry_iter (kdk_args_iter _) ?_
  unfold Builtin.«iter»
  refine wpAny_bind (m := someArgs "iter" 1 2 _) (wpAny_of_eq (a := [Value.ref l]) (by first | rfl | kernel_rfl!) ?_)
  dsimp only
  refine wpAny_bind (wpAny_pyIter_list hl ?_)
  have kp : ∀ b o, s.heap.get? b = some o → (s.heap.push (liO l 0)).get? b = some o := fun b o e => Heap.get?_push_of_some _ e
  exact wpAny_pure ⟨_, rfl, h _ _ (F.keeps kp) (news_pushed F N kp (o := liO l 0) (Heap.get?_push_size _ rfl) rfl) fun q hq => Heap.lt_size (N q hq).1⟩
theorem in_45 (P : Params) : (K P).lookup 45 = some (o45 P) := by kernel_rfl
abbrev rdMap (I T0 S : Addr) (v : Value) (ve : Option Value) : Str → Option Value := fun y => if y = Str.ofString "element" then ve else if y = Str.ofString "value" then some v else if y = Str.ofString "it" then some (.ref I) else if y = Str.ofString "initial" then some (.ref T0) else if y = Str.ofString "sequence" then some (.ref S) else if y = Str.ofString "function" then some (.ref 792) else none
theorem TV.nth {vs : List Value} {l : List (List Nat)} (h : TV vs l) : ∀ (i : Nat) (v : Value), vs[i]? = some v → ∃ (x : Str) (t : Tok), v = .str x t ∧ l[i]? = some x.cps.toList := by
  induction h with
  | nil => intro i v e; simp at e
  | cons h _ ih =>
    intro i v e
    cases i with
    | zero =>
      obtain ⟨x, t, rfl, hx⟩ := h
      simp only [List.getElem?_cons_zero, Option.some.injEq] at e ⊢
      exact ⟨x, t, e.symm, hx.symm⟩
    | succ i =>
      simp only [List.getElem?_cons_succ] at e ⊢
      exact ih i v e
section
theorem reduce_spec {A : Around} {S T0 : Addr} {c c0 : Nat} {vs : List Value} {l : List (List Nat)} {P : Addr → Prop} (hPn : ∀ a, s.heap.get? a = none → P a) (hPT : P T0) (X : (K w.params).In s.heap) (T : Top p lo mean mg mb s.heap) (hh : A.handled = none) (hd : A.depth + 40 < recursionLimit) (hu : A.units + 250 < cLine)
    (hS : s.heap.get? S = some (lsO vs.toArray c)) (hT0 : s.heap.get? T0 = some (lsO #[] c0)) (hV : TV vs l) (hl : l.length ≤ 100) (hl3 : ∀ x ∈ l, x.length ≤ 3 ∧ ∀ c ∈ x, c < 256)
    (hret : ∀ (v : Value) (h' : Heap) (tk' : Nat), OV (InP P h') v (l.foldl grown (some .nil)) → (∀ a o, s.heap.get? a = some o → h'.get? a = some o) → Q v { s with heap := h', toks := tk' }) :
    wpN (model PySem.Challenge.rw_op0211_01.row.toRowW.prog w) A (call (.ref 53) [.ref 792, .ref S, .ref T0]) Q E s := by
  have hsz : vs.length ≤ 16777216 := by rw [hV.length]; omega
  revert X; k_fill; intro X
  refine wpN_call ?_
  (refine' codeN_defR (binds := [(Str.ofString "function", .ref 792), (Str.ofString "sequence", .ref S), (Str.ofString "initial", .ref T0)]) ?k3 ?k5 ?k6 ?k7 ?k8 ?k9 ?kB ?_ ?c2 ?c3 ?c4 ?c5; (case k3 => k_asm); (case k5 => k_asm); (case k6 => k_is); (case k7 => k_is); (case k8 => k_room); (case k9 => first | exact BindsTo.of_eq rfl | exact binds_K (by k_in) rfl (by k_is) rfl rfl rfl); (case c5 => decide); (case kB => exact locs rfl); (case c2 => exact rfl); (case c3 => exact rfl); (case c4 => exact rfl); k_whole; intro g1 L1 h1 FG1 F1 N1 X1 T1; (try dsimp only); (simp only [List.reverse_cons, List.reverse_nil, List.nil_append, List.cons_append, mapOf_cons, mapOf_nil] at F1); (try k_fold))
  have hL : g1.IsList S vs.toArray := ⟨_, FG1 _ _ hS, rfl, c, rfl⟩
  have hLT : g1.IsList T0 #[] := ⟨_, FG1 _ _ hT0, rfl, c0, rfl⟩
  refine execsN_cons (wpN_any ?_)
  k_steps
  rename News g1 L1 _ _ => N2
  rename Fr g1 L1 _ _ => F2
  refine call_iter_list F2 N2 (hL.at fun o e => F2.keep _ _ e) ?_
  intro I h3 F3 N3 l3
  clear F2 N2
  k_steps
  refine execsN_cons ?_
  refine execN_If ?_
  k_steps
  rename News g1 L1 _ _ => N4
  rename Fr g1 L1 _ _ => F4
  have hne : T0 ≠ (45 : Addr) := by
    rintro rfl
    have e1 := X1 _ _ (in_45 w.params)
    have e2 := FG1 _ _ hT0
    rw [e1] at e2
    have e3 : (Value.type "object") = Value.type "list" := congrArg Obj.cls (Option.some.inj e2)
    injection e3 with e4
    exact absurd e4 (by decide)
  refine wpAny_is_ref_other hne (F4.keep _ _ (FG1 _ _ hT0)) (F4.keep _ _ (X1 _ _ (in_45 w.params))) (by simp) ?_
  k_steps
  refine wpN_any ?_
  k_steps
  refine execsN_cons ?_
  refine execN_For ?_ (by intro _; rfl)
  k_steps
  rename News g1 L1 _ _ => N5
  rename Fr g1 L1 _ _ => F5
  have hI := N5 _ (.head _)
  have hLI : L1 ≠ I := Ne.symm hI.2.1
  have hSI : S ≠ I := by
    rintro rfl
    obtain ⟨o, ho, _⟩ := hL
    rw [hI.2.2] at ho
    cases ho
  refine wpAny_pyIter_listiter (l := S) (i := 0) ⟨_, hI.1, rfl, rfl⟩ ?_
  refine codeN_forLoop (fun k s' => ∃ (h : Heap) (tk i : Nat) (v : Value) (ve : Option Value), s' = { s with heap := h, toks := tk } ∧ i ≤ vs.length ∧ k = vs.length + 1 - i ∧ h.IsListIter I S i ∧ Fr g1 L1 h (rdMap I T0 S v ve) ∧ OV (InP P h) v ((l.take i).foldl grown (some .nil))) ?turn (by intro _; rfl) (vs.length + 1) _ ?init
  case init =>
    refine ⟨_, _, 0, .ref T0, none, rfl, Nat.zero_le _, rfl, ⟨_, hI.1, rfl, rfl⟩, ?_, ?_⟩
    · refine cast (congrArg (Fr g1 L1 _) ?_) F5
      funext y
      by_cases h1 : y = Str.ofString "element"
      · subst h1
        simp only [rdMap, if_pos, if_neg (show ¬ (Str.ofString "element" = Str.ofString "value") by decide +kernel), if_neg (show ¬ (Str.ofString "element" = Str.ofString "it") by decide +kernel), if_neg (show ¬ (Str.ofString "element" = Str.ofString "initial") by decide +kernel), if_neg (show ¬ (Str.ofString "element" = Str.ofString "sequence") by decide +kernel), if_neg (show ¬ (Str.ofString "element" = Str.ofString "function") by decide +kernel)]
      · simp only [rdMap, if_neg h1]
    · exact .some ⟨F5.keep _ _ (FG1 _ _ hT0), hPT⟩ .nil
  case turn =>
    rintro k s' E' ⟨h6, tk6, i, v, ve, rfl, hi, rfl, hit, F6, hO⟩
    clear F5 N5
    have W := fun (A' : Around) (hA : A'.handled = none) => Walks.list (prog := PySem.Challenge.rw_op0211_01.row.toRowW.prog) (w := w) hA I S hSI vs.toArray
    have hL6 : h6.IsList S vs.toArray := hL.at fun o e => F6.keep _ _ e
    by_cases hlt : i < vs.length
    · refine (W (A.deeper _) hh).item i _ _ _ ?_ ?_ ?_
      · simpa using hlt
      · exact ⟨hit, hL6⟩
      intro v' h7 tk7 hP hst hk7
      have F7 : Fr g1 L1 h7 (rdMap I T0 S v ve) := ⟨F6.ns.at' fun o e => hk7 _ o (by simpa using hLI) e, fun b o e => hk7 b o (by intro hm; rw [List.mem_singleton.mp hm, hI.2.2] at e; cases e) (F6.keep b o e), F6.above⟩
      have hO7 := ov_but hO I (isIter_not hit) fun b o hb e => hk7 b o (by simpa using hb) e
      refine wpAny_assign_Name (wpAny_storeName_local (by rfl) F7.ns (fun h8 hn8 hs8 => ?_) (by rfl))
      have F8 := F7.set hn8 hs8
      have hO8 := ov_but hO7 L1 (ns_not F7.ns) fun b o hb e => hs8.extBut b o hb e
      have hit8 : h8.IsListIter I S (i + 1) := by
        obtain ⟨⟨o, ho, r⟩, _⟩ := hst
        exact ⟨o, hs8.extBut _ _ (Ne.symm hLI) ho, r⟩
      have hv' : vs[i]? = some v' := by simpa using hP
      obtain ⟨x, tx, rfl, hlx⟩ := hV.nth i v' hv'
      have hxm := hl3 _ (List.mem_of_getElem? hlx)
      have N8 : News g1 L1 h8 [] := News.nil
      refine execsN_cons ?_
      refine execN_Assign ?_
      refine evalN_Call ?_
      k_steps
      refine callWithN_K (K := K w.params) (by kernel_rfl) ?_
      k_steps
      have hfl : ∀ G, (l.take i).foldl grown (some .nil) = some G → G.len ≤ 100 := by
        intro G e
        have := fold_len (l.take i) (some .nil) 0 (fun G e => by cases e; exact Nat.le_refl _) G e
        have h2 : (l.take i).length ≤ l.length := by simp; omega
        omega
      have hxs : x.cps.size ≤ 3 := by simpa using hxm.1
      refine grown_spec (P := P) (fun a e => hPn a (get_none_of (fun b o q => F8.keep b o (FG1 b o q)) e)) (X1.keeps F8.keep) (T1.keeps F8.keep) hh ?_ ?_ hxs hxm.2 hO8 hfl ?_
      · ktr_room
      · ktr_units
      intro v2 h9 tk9 hO9 hk9
      have F9 := F8.keeps hk9
      have hit9 : h9.IsListIter I S (i + 1) := by
        obtain ⟨o, ho, r⟩ := hit8
        exact ⟨o, hk9 _ _ ho, r⟩
      have hl1 : (l.take (i + 1)).foldl grown (some .nil) = grown ((l.take i).foldl grown (some .nil)) x.cps.toList := by
        rw [List.take_add_one, hlx]
        simp
      rw [← hl1] at hO9
      refine wpAny_storeName_local (by rfl) F9.ns (fun h10 hn10 hs10 => ?_) (by rfl)
      have F10 := F9.set hn10 hs10
      have hO10 := ov_but hO9 L1 (ns_not F9.ns) fun b o hb e => hs10.extBut b o hb e
      have hit10 : h10.IsListIter I S (i + 1) := by
        obtain ⟨o, ho, r⟩ := hit9
        exact ⟨o, hs10.extBut _ _ (Ne.symm hLI) ho, r⟩
      refine wpN_any (wpAny_execs_nil ?_)
      refine ⟨.inl rfl, vs.length + 1 - (i + 1), by omega, h10, _, i + 1, v2, some (.str x tx), rfl, hlt, rfl, hit10, ?_, hO10⟩
      refine cast (congrArg (Fr g1 L1 h10) ?_) F10
      funext y
      by_cases h1 : y = Str.ofString "value"
      · subst h1
        simp only [rdMap, if_pos, if_neg (show ¬ (Str.ofString "value" = Str.ofString "element") by decide +kernel)]
      · by_cases h2 : y = Str.ofString "element"
        · simp only [rdMap, if_neg h1, if_pos h2]
        · simp only [rdMap, if_neg h1, if_neg h2]
    · have hie : i = vs.length := by omega
      subst hie
      refine (W (A.deeper _) hh).done _ _ _ ?_ ?_
      · exact ⟨by simpa using hit, hL6⟩
      intro h7 tk7 hk7
      have F7 : Fr g1 L1 h7 (rdMap I T0 S v ve) := ⟨F6.ns.at' fun o e => hk7 _ o (by simpa using hLI) e, fun b o e => hk7 b o (by intro hm; rw [List.mem_singleton.mp hm, hI.2.2] at e; cases e) (F6.keep b o e), F6.above⟩
      have hO7 := ov_but hO I (isIter_not hit) fun b o hb e => hk7 b o (by simpa using hb) e
      have N7 : News g1 L1 h7 [] := News.nil
      rw [hV.length, List.take_length] at hO7
      clear F6
      refine wpN_any ?_
      k_steps
      exact hret v _ _ hO7 fun a o e => F7.keep a o (FG1 a o e)
end
end
end
-- W26
section
section
variable {w : World} {p : Program} {lo : List Str} {mean : ExcName → Option Value} {mg mb : Str → Option Value} {dp un : Nat} {gd : Option (List Code)} {A₀ : Around} {env : Env} {outer : List Env} {base h₀ : Heap} {L : Addr} {m : Str → Option Value} {s : Shared} {Q E : Value → Shared → Prop} {news : List (Addr × Obj)}
theorem codeN_defX0 {prog : Program} {A : Around} {Kf : Frag} {R : Result → Shared → Prop} {name qual : Str} {params : Arguments} {body : List Stmt} {scope : Scope} {dV kV doc pm cdv ct oc : Value} {an od : Option Addr} {osl : Array (Option Value)} {f : Addr} {args : Args} {binds : List (Str × Value)}
    (B : Below A₀ base [] h₀) (F : Fr h₀ L s.heap m) (X₀ : Kf.In h₀) (N : News h₀ L s.heap news) (T : Top p lo mean mg mb h₀) (hA : A.frames = some [env]) (hf : env.frame = some L) (hke : env.scope.kind = .function)
    (ho : Kf.lookup f = some ⟨oc, od, .func (fnOf name qual params body scope dV kV doc pm an cdv ct), osl⟩) (hcd : codeIn Kf cdv qual = true) (hroom : A.depth < recursionLimit)
    (hbind : BindsTo s (fnOf name qual params body scope dV kV doc pm an cdv ct) args binds) (hloc : ∀ y ∈ binds, scope.names.lookup y.1 = some .local)
    (h : ∀ g L' h₁, Fr h₀ L g m → Fr g L' h₁ (mapOf binds.reverse) → News g L' h₁ news → Below A base [env] g → Kf.In g → Top p lo mean mg mb g → KtsDicts ([env].filterMap (·.frame)) g →
      wpN (model prog w) (A.deeper (envOf qual scope L' f cdv)) (execs body (envOf qual scope L' f cdv))
        (fun fl s' => LeaveS0 ([env].filterMap (·.frame)) h₀ L m g R (match fl with | .ret v => v | _ => .none) s')
        (fun e s' => wpAny (model prog w) (A.deeper (envOf qual scope L' f cdv)) (leaving (envOf qual scope L' f cdv) e) (fun _ s'' => R (.error e) s'') (fun e' s'' => R (.error e') s'') s')
        { s with heap := h₁, toks := s.toks + binds.length })
    (hco : scope.isCoroutine = false) (hgen : scope.isGenerator = false) (hk : scope.kind = .function)
    (hcell : ∀ x ∈ scope.names, x.2 ≠ .cell) : codeN (model prog w) A (.call (.ref f) args) R s := by
  have X := X₀.keeps F.keep
  obtain ⟨FG, BG, st, _⟩ := groundX (R := R) B F N hA hf hke
  refine codeN_call_def (fd := fnOf name qual params body scope dV kV doc pm an cdv ct) (body := body) (binds := binds) hroom (X _ _ ho) rfl (T.nolimit.keeps F.keep) (codeRec_of X hcd) rfl hbind hcell hloc (fun h₁ hns hk₁ => ?_) hco hgen hk
  obtain ⟨oL, es, ep, hLg, hLd, hLk, hLf⟩ := FG.ns
  have hfm : [env].filterMap (·.frame) = [L] := by simp [hf]
  have hmap : Fr (hideAll s.heap (news.map (·.1))) s.heap.objs.size h₁ (mapOf binds.reverse) := by
    rw [← mapOf_lookup]
    exact ⟨hns, fun b o e => hk₁ b o (of_hideAll _ e), Nat.le_of_eq (hideAll_size _ _)⟩
  refine wpN_mono (h _ s.heap.objs.size h₁ FG hmap
    (fun p hp => ⟨hk₁ _ _ (N p hp).1, Nat.ne_of_lt (Heap.lt_size (N p hp).1), hideAll_none _ (List.mem_map_of_mem hp)⟩) BG (X₀.keeps st) (T.keeps st) (fun b hb => by
      rw [hfm] at hb
      rw [List.mem_singleton.mp hb]
      exact ⟨oL, es, ep, hLg, hLd⟩)) (fun fl s' hl => ?_) fun _ _ y => y
  obtain ⟨g', L', m', news', T', F', N', k⟩ := hl
  have nL₀ : h₀.get? L = none := kts_self F
  obtain ⟨sl, hs⟩ := T'.up hLg
  refine k ⟨⟨_, es, ep, F'.keep _ _ hs, hLd, hLk, hLf⟩, fun b o e => F'.keep b o (T'.other b o (st b o e) (fun q => by
    rw [hfm] at q
    rw [List.mem_singleton.mp q, nL₀] at e
    cases e)), F.above⟩ fun p hp => ⟨(N' p hp).1, fun q => ?_, ?_⟩
  · have := (N' p hp).2.2; rw [q, hs] at this; cases this
  · cases q : h₀.get? p.1 with
    | none => rfl
    | some o =>
      obtain ⟨sl', hs'⟩ := T'.up (st _ _ q)
      have := (N' p hp).2.2
      rw [hs'] at this
      cases this
end
end
-- W27
section
section
variable {w : World} {p : Program} {lo : List Str} {mean : ExcName → Option Value} {mg mb : Str → Option Value} {dp un : Nat} {gd : Option (List Code)} {A₀ : Around} {env : Env} {outer : List Env} {base h₀ : Heap} {L : Addr} {m : Str → Option Value} {s : Shared} {Q E : Value → Shared → Prop} {news : List (Addr × Obj)}
theorem all_lt {d : Addr} (l : List (Addr × Obj)) (h : AllLt d l) : ∀ p ∈ l, @LT.lt Nat _ p.1 d := by
  induction l with
  | nil => intro p hp; cases hp
  | cons q r ih =>
    intro p hp
    have h : @LT.lt Nat _ q.1 d ∧ AllLt d r := h
    rcases List.mem_cons.mp hp with rfl | hp
    · exact h.1
    · exact ih h.2 p hp
local macro_rules | `(tactic| walk_at "call ref") => `(tactic| (k_here; (with_reducible show wpAny _ _ (call (Value.ref 760) _ _) _ _ _); refine stop_in ?_))
local macro_rules | `(tactic| walk_at "call ref") => `(tactic| (k_here; (with_reducible show wpAny _ _ (call (Value.ref 753) _ _) _ _ _); refine stop_in ?_))
theorem TV.take {vs : List Value} {l : List (List Nat)} (h : TV vs l) : ∀ k, TV (vs.take k) (l.take k) := by
  induction h with
  | nil => intro k; cases k <;> exact .nil
  | cons h1 _ ih =>
    intro k
    cases k with
    | zero => exact .nil
    | succ k => exact .cons h1 (ih k)
theorem TV.drop {vs : List Value} {l : List (List Nat)} (h : TV vs l) : ∀ k, TV (vs.drop k) (l.drop k) := by
  induction h with
  | nil => intro k; cases k <;> exact .nil
  | cons h1 h2 ih =>
    intro k
    cases k with
    | zero => exact .cons h1 h2
    | succ k => exact ih k
theorem TV.hit {vs : List Value} {l : List (List Nat)} (h : TV vs l) (h3 : ∀ x ∈ l, x.length ≤ 3) : ∀ i v, vs.toArray[i]? = some v → ∃ b t, v = .str b t ∧ b.cps.size ≤ 3 ∧ b.cps.toList = l.getD i [] := by
  intro i v e
  have e : vs[i]? = some v := by simpa using e
  obtain ⟨x, t, rfl, hx⟩ := h.nth i v e
  refine ⟨x, t, rfl, ?_, ?_⟩
  · have := h3 _ (List.mem_of_getElem? hx)
    simpa using this
  · rw [List.getD_eq_getElem?_getD, hx]; rfl
theorem qt_lt (x : List Nat) (h : ∀ c ∈ x, c < 256) : ∀ c ∈ qt x, c < 256 := by
  intro c hc
  unfold qt at hc
  split at hc
  · simp at hc; omega
  · split at hc
    · exact h c hc
    · simp only [List.cons_append, List.mem_cons, List.mem_append, List.mem_flatMap, List.not_mem_nil, or_false] at hc
      rcases hc with rfl | ⟨a, ha, hc⟩ | rfl
      · decide
      · unfold qc at hc
        split at hc
        · simp at hc; omega
        · simp at hc; rw [hc]; exact h a ha
      · decide
theorem jl_lt (ws : List (List Nat)) (h : ∀ x ∈ ws, ∀ c ∈ x, c < 256) : ∀ c ∈ jl ws, c < 256 := by
  cases ws with
  | nil => intro c hc; cases hc
  | cons x r =>
    intro c hc
    rw [jl_cons] at hc
    rcases List.mem_append.mp hc with hc | hc
    · exact qt_lt x (h x (.head _)) c hc
    · obtain ⟨y, hy, hc⟩ := List.mem_flatMap.mp hc
      rcases List.mem_cons.mp hc with rfl | hc
      · decide
      · exact qt_lt y (h y (.tail _ hy)) c hc
section
variable {W : Addr} {ci : Nat} {ws : List Value} {wl l : List (List Nat)} {k : Nat} {tk0 : Tok} {ps : Array Value} {rest : List (Addr × Obj)}
theorem forest_spec (B : Below A₀ base [] h₀) (F : Fr h₀ L s.heap m) (X : (K w.params).In h₀) (N : News h₀ L s.heap ((755, tabO ps) :: rest)) (hW : (W, lsObj ws.toArray ci) ∈ rest) (T : Top p lo mean mg mb h₀) (XB : (K w.params).In base) (TB : Top p lo mean mg mb base) (hf : env.frame = some L) (hke : env.scope.kind = .function)
    (hd : dp + 60 < recursionLimit) (hu : un + 500 < cLine) (hg : AllBare s.gens) (hp : TabOk ps) (hr : ∀ q ∈ rest, q.1 ≠ 755)
    (hV : TV ws wl) (hwl : wl.length ≤ 5) (hw3 : ∀ x ∈ wl, x.length ≤ 3 ∧ ∀ c ∈ x, c < 256) (hk : k ≤ wl.length) (hT : Toks .sp ((jl (wl.take k)).reverse ++ 32 :: (jl (wl.drop k)).reverse) l) (hl : l.length ≤ 100) (hl3 : ∀ x ∈ l, x.length ≤ 3 ∧ ∀ c ∈ x, c < 256)
    (hret : ∀ v s' ps', OV (InP (fun a => ∀ q ∈ rest, a ≠ q.1) s'.heap) v (l.foldl grown (some .nil)) → TabOk ps' → Fr h₀ L s'.heap m → News h₀ L s'.heap ((755, tabO ps') :: rest) → AllBare s'.gens → s'.os = s.os → Q v s') :
    wpN (model PySem.Challenge.rw_op0211_01.row.toRowW.prog w) (Ar dp un gd env []) (call (.ref 799) [.ref W, .int (k : Int) tk0]) Q E s := by
  revert X; k_fill; intro X
  refine wpN_call ?_
  refine' codeN_defX0 (binds := [(Str.ofString "words", .ref W), (Str.ofString "place", .int (k : Int) tk0)]) B F X N T rfl hf hke ?k6 ?k7 ?k8 ?k9 ?kB ?_ ?c2 ?c3 ?c4 ?c5
  case k6 => k_is
  case k7 => k_is
  case k8 => k_room
  case k9 => first | exact BindsTo.of_eq rfl | exact binds_K (by k_in) rfl (by k_is) rfl rfl rfl
  case c5 => decide
  case kB => exact locs rfl
  case c2 => exact rfl
  case c3 => exact rfl
  case c4 => exact rfl
  k_whole
  intro g1 L1 h1 FG1 F1 N1 B1 X1 T1 D1
  simp only [List.reverse_cons, List.reverse_nil, List.nil_append, List.cons_append, mapOf_cons, mapOf_nil] at F1
  have hWl : ws.length ≤ 16777216 := by rw [hV.length]; omega
  have hLW : h1.IsList W ws.toArray := News.isList N1 (.tail _ hW)
  refine execsN_cons ?_
  refine execN_Assign ?_
  refine evalN_BinOp ?_
  refine evalN_BinOp ?_
  refine evalN_Call ?_
  k_steps
  refine callWithN_K (K := K w.params) (by kernel_rfl) ?_
  k_steps
  rename News g1 L1 _ _ => N2
  rename Fr g1 L1 _ _ => F2
  unfold Stop
  have ek : (slicePick ws.toArray none (some (k : Int)) none) = (ws.take k).toArray := by
    apply Array.ext'
    rw [pick_up]
  rw [ek] at N2
  have hr1 : ∀ q ∈ rest, q.1 ≠ 755 := hr
  refine join_spec (ws := wl.take k) B1 F2 X1 N2 T1 rfl rfl ?_ ?_ hg hp hr ((hV.take k).hit fun x hx => (hw3 x (List.mem_of_mem_take hx)).1) (by simp [hV.length]) (fun x hx => (hw3 x (List.mem_of_mem_take hx)).1) (by simp; omega) ?_
  · ktr_room
  · ktr_units
  intro r3 t3 s3 ps3 hr3 hp3 F3 N3 hg3 hos3
  replace N3 : News g1 L1 s3.heap ((755, tabO ps3) :: rest) := cb_drop N3 fun q hq => .tail _ hq
  clear F2 N2
  k_steps
  have hj3 : (jl (wl.take k)).length ≤ 90 := by
    have h1 := jl_len (wl.take k) fun x hx => (hw3 x (List.mem_of_mem_take hx)).1
    have h2 : (wl.take k).length ≤ 5 := by simp; omega
    omega
  have hc3 : ∀ c ∈ r3.cps.toList, c < 256 := by
    rw [hr3]
    exact jl_lt _ fun x hx => (hw3 x (List.mem_of_mem_take hx)).2
  have hs3 : r3.cps.size ≤ 90 := by rw [← Array.length_toList, hr3]; exact hj3
  refine turned_spec (X1.keeps F3.keep) (T1.keeps F3.keep) rfl ?_ ?_ (by omega) hc3 ?_
  · ktr_room
  · ktr_units
  intro r4 t4 h4 tk4 hr4 hk4
  have F4 := F3.keeps hk4
  have N4 := News.grown N3 hk4
  clear F3 N3
  have hs4 : r4.cps.size ≤ 90 := by rw [← Array.length_toList, hr4]; simpa using hs3
  have hl4 : r4.length ≤ 1048576 := by (have e : r4.length = r4.cps.size := rfl); omega
  have hl5 : r4.length ≤ 100 := by (have e : r4.length = r4.cps.size := rfl); omega
  k_steps
  have hLW4 : h4.IsList W ws.toArray := News.isList N4 (.tail _ hW)
  refine wpN_any ?_
  k_steps
  refine evalN_Call ?_
  k_steps
  refine callWithN_K (K := K w.params) (by kernel_rfl) ?_
  k_steps
  rename News g1 L1 _ _ => N5
  rename Fr g1 L1 _ _ => F5
  unfold Stop
  have ek2 : (slicePick ws.toArray (some (k : Int)) none none) = (ws.drop k).toArray := by
    apply Array.ext'
    rw [pick_from _ _ (by rw [hV.length]; exact hk)]
  rw [ek2] at N5
  refine join_spec (ws := wl.drop k) B1 F5 X1 N5 T1 rfl rfl ?_ ?_ hg3 hp3 hr ((hV.drop k).hit fun x hx => (hw3 x (List.mem_of_mem_drop hx)).1) (by simp [hV.length]) (fun x hx => (hw3 x (List.mem_of_mem_drop hx)).1) (by simp; omega) ?_
  · ktr_room
  · ktr_units
  intro r6 t6 s6 ps6 hr6 hp6 F6 N6 hg6 hos6
  replace N6 : News g1 L1 s6.heap ((755, tabO ps6) :: rest) := cb_drop N6 fun q hq => .tail _ hq
  clear F5 N5
  k_steps
  have hj6 : (jl (wl.drop k)).length ≤ 90 := by
    have h1 := jl_len (wl.drop k) fun x hx => (hw3 x (List.mem_of_mem_drop hx)).1
    have h2 : (wl.drop k).length ≤ 5 := by simp; omega
    omega
  have hc6 : ∀ c ∈ r6.cps.toList, c < 256 := by
    rw [hr6]
    exact jl_lt _ fun x hx => (hw3 x (List.mem_of_mem_drop hx)).2
  have hs6 : r6.cps.size ≤ 90 := by rw [← Array.length_toList, hr6]; exact hj6
  refine turned_spec (X1.keeps F6.keep) (T1.keeps F6.keep) rfl ?_ ?_ (by omega) hc6 ?_
  · ktr_room
  · ktr_units
  intro r7 t7 h7 tk7 hr7 hk7
  have F7 := F6.keeps hk7
  have N7 := News.grown N6 hk7
  clear F6 N6
  have hs7 : r7.cps.size ≤ 90 := by rw [← Array.length_toList, hr7]; simpa using hs6
  have hl7 : r7.length ≤ 100 := by (have e : r7.length = r7.cps.size := rfl); omega
  k_steps
  rename News g1 L1 _ _ => N8
  rename Fr g1 L1 _ _ => F8
  try clear F7 N7
  have htx : (r4 ++ Str.ofString " " ++ r7).cps.toList = (jl (wl.take k)).reverse ++ 32 :: (jl (wl.drop k)).reverse := by
    (show ((r4.cps ++ (Str.ofString " ").cps) ++ r7.cps).toList = _)
    have e : (Str.ofString " ").cps = #[32] := by decide
    rw [e]
    simp [hr4, hr3, hr7, hr6]
  have hln : (r4 ++ Str.ofString " " ++ r7).length ≤ 1000 := by
    (show (r4 ++ Str.ofString " " ++ r7).cps.size ≤ 1000)
    rw [← Array.length_toList, htx]
    simp
    omega
  rw [← htx] at hT
  generalize hline : r4 ++ Str.ofString " " ++ r7 = line at *
  refine execsN_cons ?_
  refine execN_Return ?_
  refine evalN_Call ?_
  k_steps
  refine callWithN_K (K := K w.params) (by kernel_rfl) ?_
  k_steps
  unfold Stop
  refine split_spec (l := l) B1 F8 X1 N8 T1 XB TB D1 rfl ?_ ?_ hln hT (by omega) ?_
  · ktr_room
  · ktr_units
  intro S vs c9 h9 g2 tk9 hV9 hTn F9 N9 l9 B9 X9 T9 D9
  clear F8 N8 X1 T1 B1 D1
  k_steps
  rename News g2 L1 _ _ => N10
  rename Fr g2 L1 _ _ => F10
  rename_i T0 h10 hlt10
  have hPn : ∀ a, h10.get? a = none → ∀ q ∈ rest, a ≠ q.1 := by
    intro a e q hq h
    have z := (N10 _ (.tail _ (.tail _ (.tail _ hq)))).1
    rw [h, z] at e
    cases e
  have hPT : ∀ q ∈ rest, T0 ≠ q.1 := fun q hq => Ne.symm (Nat.ne_of_lt (all_lt rest hlt10.2.2 q hq))
  refine reduce_spec (P := fun a => ∀ q ∈ rest, a ≠ q.1) hPn hPT (X9.keeps F10.keep) (T9.keeps F10.keep) rfl ?_ ?_ (N10 _ (.tail _ (.head _))).1 (N10 _ (.head _)).1 hV9 hl hl3 ?_
  · ktr_room
  · ktr_units
  intro v h11 tk11 hO11 hk11
  have F11 := F10.keeps hk11
  have N11 : News g2 L1 h11 ((755, tabO ps6) :: rest) := cb_drop (News.grown N10 hk11) fun q hq => .tail _ (.tail _ hq)
  refine leaveS0_ F11 N11 hTn ?_
  intro Fh Nh
  exact hret v _ ps6 hO11 hp6 Fh Nh hg6 (hos6.trans hos3)
end
end
end
-- W21
section
section
variable {w : World} {p : Program} {lo : List Str} {mean : ExcName → Option Value} {mg mb : Str → Option Value} {dp un : Nat} {gd : Option (List Code)} {A₀ : Around} {env : Env} {outer : List Env} {base h₀ : Heap} {L : Addr} {m : Str → Option Value} {s : Shared} {Q E : Value → Shared → Prop} {news : List (Addr × Obj)}
theorem code_cellR {prog : Program} {A : Around} {Kf : Frag} {R : Result → Shared → Prop} {name qual : Str} {params : Arguments} {body : List Stmt} {scope : Scope} {dV kV doc pm cdv ct oc : Value} {an od : Option Addr} {osl : Array (Option Value)} {f : Addr} {args : Args} {binds : List (Str × Value)}
    (X : Kf.In s.heap) (T : Top p lo mean mg mb s.heap)
    (ho : Kf.lookup f = some ⟨oc, od, .func (fnOf name qual params body scope dV kV doc pm an cdv ct), osl⟩) (hcd : codeIn Kf cdv qual = true) (hroom : A.depth < recursionLimit)
    (hbind : BindsTo s (fnOf name qual params body scope dV kV doc pm an cdv ct) args binds) (hkind : (binds.all fun y => scope.names.lookup y.1 == some .local || scope.names.lookup y.1 == some .cell) = true)
    (hnd : ((cellsFrom 0 scope.names []).map (·.1)).Nodup)
    (h : ∀ g L' h₁ tk cells, (∀ b o, s.heap.get? b = some o → g.get? b = some o) → Fr g L' h₁ (bindL (envOfC qual scope L' f cdv).kindOf binds fun _ => none) → News g L' h₁ cells →
      CellsAre (bindC (envOfC qual scope L' f cdv).kindOf binds fun _ => none) (cellsFrom (L' + 1) scope.names []) cells → Kf.In g → Top p lo mean mg mb g →
      wpAny (model prog w) (A.deeper (envOfC qual scope L' f cdv)) (execs body (envOfC qual scope L' f cdv))
        (fun fl s' => R (.ok (.ret (match fl with | .ret v => v | _ => .none))) s')
        (fun e s' => wpAny (model prog w) (A.deeper (envOfC qual scope L' f cdv)) (leaving (envOfC qual scope L' f cdv) e) (fun _ s'' => R (.error e) s'') (fun e' s'' => R (.error e') s'') s')
        { s with heap := h₁, toks := tk })
    (hco : scope.isCoroutine = false) (hgen : scope.isGenerator = false) (hk : scope.kind = .function) : codeAny (model prog w) A (.call (.ref f) args) R s := by
  refine codeAny_call_function hroom (X _ _ ho) rfl hco hgen rfl (codeRec_of X hcd) (hbind _ _ _ _ ?_)
  refine wpAny_newFunctionEnv_cells hk (kindsX hkind _) fun env' he s' x => ?_
  subst he
  refine ⟨T.nolimit.keeps x.toInCall.keep, codeAny_func ?_⟩
  obtain ⟨h₁, tk, rfl, _⟩ := x.done
  have hk₁ := x.toInCall.keep
  obtain ⟨cells, NC, Y⟩ := Cl.news (h₀ := s.heap) (Nat.le_refl _) fun n c hm => ⟨x.cell n c (lookup_of_mem_nodup (cellsFrom_names scope.names 0 (s.heap.objs.size + 1) [] [] rfl ▸ hnd) hm), x.above n c hm⟩
  exact h s.heap s.heap.objs.size h₁ tk cells (fun _ _ e => e) ⟨x.toInCall.ns, fun b o e => hk₁ b o e, Nat.le_refl _⟩ NC Y X T
def StrG (f : Nat → Nat) (i : Nat) (r : Value) : Prop := ∃ t, r = Value.str ⟨#[f i]⟩ t
def wordOf (n : Int) : List Nat := (List.range (n % 4).toNat).map fun k => ((n / 4) / 256 ^ k % 256).toNat
section
variable {n : Int} {tn : Tok}
theorem word_spec {A : Around} (X : (K w.params).In s.heap) (T : Top p lo mean mg mb s.heap) (hh : A.handled = none) (hd : A.depth + 20 < recursionLimit) (hu : A.units + 90 < cLine)
    (hret : ∀ (r : Str) (t : Tok) (h' : Heap) (tk' : Nat), r.cps.toList = wordOf n → (∀ a o, s.heap.get? a = some o → h'.get? a = some o) → Q (.str r t) { s with heap := h', toks := tk' }) :
    wpAny (model PySem.Challenge.rw_op0211_01.row.toRowW.prog w) A (call (.ref 780) [.int n tn]) Q E s := by
  revert X; k_fill; intro X
  refine wpAny_call ?_
  refine' code_cellR (binds := [(Str.ofString "number", .int n tn)]) ?k3 ?k5 ?k6 ?k7 ?k8 ?k9 ?kB ?kN ?_ ?c2 ?c3 ?c4
  case k3 => k_asm
  case k5 => k_asm
  case k6 => k_is
  case k7 => k_is
  case k8 => k_room
  case k9 => first | exact BindsTo.of_eq rfl | exact binds_K (by k_in) rfl (by k_is) rfl rfl rfl
  case kB => with_unfolding_all rfl
  case kN => with_unfolding_all decide
  case c2 => exact rfl
  case c3 => exact rfl
  case c4 => exact rfl
  k_whole
  intro g1 L1 h1 tk1 cells FG1 F1 N1 Y X1 T1
  obtain ⟨oc, rfl, hoc⟩ := Y.one
  k_steps
  have hm4 : 0 ≤ n % 4 ∧ n % 4 < 4 := by omega
  have hcl := (N1 _ (.head _)).1
  refine lc_range (h₀ := g1) (L := L1) (cl := [(Str.ofString "number", L1 + 1)]) (StrG fun i => ((n / 4) / 256 ^ i % 256).toNat) (by rfl) (by decide) (by rfl) (by decide) (by rfl) ?_ (by intro _; rfl)
  k_steps
  rename IsRange _ _ _ _ _ _ _ _ => R2
  rename Fr g1 L1 _ _ => F2
  rename News g1 L1 _ _ => N2
  have efm : n.fmod 4 = n % 4 := Int.fmod_eq_emod_of_nonneg n (by decide)
  refine ⟨_, _, _, _, _, _, _, (n % 4).toNat, rfl, hh, R2, ?_, ?_, ?_, F2, N2, ?_, ?_⟩
  · rw [efm]; refine range_small_of ?_ ?_ ?_ <;> omega
  · rw [efm]
    unfold Builtin.Range.rangeSize
    simp only [gt_iff_lt, show (0 : Int) < 1 by decide, if_true, Int.ediv_one]
    split <;> omega
  · omega
  · intro C i t s₂ m₂ E' hi hn hm hk
    have hi2 : (i : Int) ≤ 2 := by omega
    have hi0 : 0 ≤ (i : Int) := by omega
    k_steps
    have hb1 : (1 : Int) ≤ 256 ^ ((i : Int).toNat) ∧ (256 : Int) ^ ((i : Int).toNat) ≤ 65536 := by
      rcases (by omega : i = 0 ∨ i = 1 ∨ i = 2) with rfl | rfl | rfl <;> decide
    refine floordiv_int (by omega) ?_ (Or.inl (PyProof.noPylong_small (by omega)))
    have e1 : ((n.fdiv 4).fdiv (256 ^ ((i : Int).toNat))).fmod 256 = (n / 4) / 256 ^ i % 256 := by
      have h4 : n.fdiv 4 = n / 4 := Int.fdiv_eq_ediv_of_nonneg _ (by decide)
      have h5 : ∀ a b : Int, 1 ≤ b → a.fdiv b = a / b := fun a b hb => Int.fdiv_eq_ediv_of_nonneg _ (by omega)
      rw [Int.fmod_eq_emod_of_nonneg _ (by decide : (0 : Int) ≤ 256), h5 _ _ hb1.1, h4, Int.toNat_natCast]
    have h6 : 0 ≤ ((n.fdiv 4).fdiv (256 ^ ((i : Int).toNat))).fmod 256 ∧ ((n.fdiv 4).fdiv (256 ^ ((i : Int).toNat))).fmod 256 < 256 := by
      rw [e1]; omega
    k_steps
    · rw [e1]; exact ⟨_, rfl⟩
    · exact ⟨_, _, rfl, fun _ _ e => e⟩
  · intro D ys c h' tk F3 N3 hne hP
    clear F2 N2
    k_steps
    rename News g1 L1 _ _ => N5
    rename Fr g1 L1 _ _ => F5
    have hS : StrsAre ys.toList ((List.range (n % 4).toNat).map fun i => (⟨#[((n / 4) / 256 ^ i % 256).toNat]⟩ : Str)) := strs_of_paired hP
    have hD := (N5 _ (.head _)).1
    refine join_list (items := ys) ⟨_, hD, rfl, c, rfl⟩ hS ?_ ?_
    · have e1 : ∀ l : List Nat, ((l.map fun i => (⟨#[((n / 4) / 256 ^ i % 256).toNat]⟩ : Str)).map (·.length)).sum = l.length := by
        intro l
        induction l with
        | nil => rfl
        | cons a l ih =>
          simp only [List.map_cons, List.sum_cons, List.length_cons]
          rw [ih]
          (show 1 + l.length = l.length + 1)
          omega
      rw [e1]
      have e2 : (Str.ofString "").length = 0 := by decide
      rw [e2]
      simp
      omega
    intro t11 k11
    refine hret _ _ _ _ ?_ fun a o e => F5.keep a o (FG1 a o e)
    have e3 : ((List.range (n % 4).toNat).map fun i => (⟨#[((n / 4) / 256 ^ i % 256).toNat]⟩ : Str)) = (wordOf n).map fun c => (⟨#[c]⟩ : Str) := by
      unfold wordOf
      rw [List.map_map]
      rfl
    rw [e3]
    exact joinE _
end
end
end
-- P1
section
def pw (x : List Nat) : List Nat := (qt x).reverse
def pj : List (List Nat) → List Nat
  | [] => []
  | [x] => pw x
  | x :: y :: r => pw x ++ 32 :: pj (y :: r)
theorem jl_snoc (a : List (List Nat)) (x : List Nat) (h : a ≠ []) : jl (a ++ [x]) = jl a ++ 32 :: qt x := by
  cases a with
  | nil => exact absurd rfl h
  | cons y r =>
    rw [List.cons_append, jl_cons, jl_cons]
    simp
theorem jl_rev (ws : List (List Nat)) : (jl ws.reverse).reverse = pj ws := by
  induction ws with
  | nil => rfl
  | cons x r ih =>
    rw [List.reverse_cons]
    cases r with
    | nil => rfl
    | cons y r =>
      rw [jl_snoc _ _ (by simp)]
      simp only [List.reverse_append, List.reverse_cons, List.append_assoc, List.singleton_append]
      rw [List.reverse_cons] at ih
      rw [ih]
      rfl
theorem pj_append (a b : List (List Nat)) (ha : a ≠ []) (hb : b ≠ []) : pj (a ++ b) = pj a ++ 32 :: pj b := by
  induction a with
  | nil => exact absurd rfl ha
  | cons x r ih =>
    cases r with
    | nil =>
      cases b with
      | nil => exact absurd rfl hb
      | cons y b => rfl
    | cons y r =>
      have := ih (by simp)
      simp only [List.cons_append] at this ⊢
      (show pw x ++ 32 :: pj (y :: (r ++ b)) = (pw x ++ 32 :: pj (y :: r)) ++ 32 :: pj b)
      rw [this]
      simp
def okB (c : Nat) : Bool := !inS c (Str.ofString " \t\r\n") && !inS c (Str.ofString "\\") && !inS c (Str.ofString "'\"")
theorem saf_okB : ∀ c : Fin 256, saf c.val = true → okB c.val = true := by decide +kernel
theorem saf_ok {c : Nat} (hc : c < 256) (h : saf c = true) : okc c := by
  have := saf_okB ⟨c, hc⟩ h
  simp only [okB, Bool.and_eq_true, Bool.not_eq_true'] at this
  exact ⟨this.1.1, this.1.2, this.2⟩
theorem run_plain (y : List Nat) (h : ∀ c ∈ y, okc c) : ∀ {q : Bool} {t cs : List Nat} {st q' tok' cs'}, Run .a q (t ++ y) cs st q' tok' cs' → Run .a q t (y ++ cs) st q' tok' cs' := by
  induction y with
  | nil => intro q t cs st q' tok' cs' r; simpa using r
  | cons c y ih =>
    intro q t cs st q' tok' cs' r
    refine .t10 (h c (.head _)) (ih (fun c hc => h c (.tail _ hc)) ?_)
    simpa using r
theorem run_quoted (y : List Nat) : ∀ {q : Bool} {t cs : List Nat} {st q' tok' cs'}, Run .a true (t ++ y) cs st q' tok' cs' → Run .q1 q t (y.flatMap qc ++ 39 :: cs) st q' tok' cs' := by
  induction y with
  | nil => intro q t cs st q' tok' cs' r; exact .t5 (by simpa using r)
  | cons c y ih =>
    intro q t cs st q' tok' cs' r
    have r2 : Run .a true ((t ++ [c]) ++ y) cs st q' tok' cs' := by simpa using r
    by_cases hc : c = 39
    · subst hc
      simp only [List.flatMap_cons, qc, if_true, List.cons_append, List.nil_append]
      exact .t5 (.t6 (.t7 (.t8 (.t9 (ih r2)))))
    · simp only [List.flatMap_cons, qc, if_neg hc, List.cons_append, List.nil_append]
      exact .t4 hc (ih r2)
theorem qc_rev (c : Nat) : (qc c).reverse = qc c := by unfold qc; split <;> rfl
theorem fm_rev (x : List Nat) : (x.flatMap qc).reverse = x.reverse.flatMap qc := by
  induction x with
  | nil => rfl
  | cons c x ih =>
    simp only [List.flatMap_cons, List.reverse_append, List.reverse_cons, List.flatMap_append, List.flatMap_nil, List.append_nil]
    rw [ih, qc_rev]
theorem word_run (x : List Nat) (hx : ∀ c ∈ x, c < 256) : ∃ q : Bool, (q = true ∨ x.reverse ≠ []) ∧ ∀ {cs : List Nat} {st q' tok' cs'}, Run .a q x.reverse cs st q' tok' cs' → Run .sp false [] (pw x ++ cs) st q' tok' cs' := by
  unfold pw qt
  by_cases h0 : x = []
  · subst h0
    refine ⟨true, .inl rfl, fun r => ?_⟩
    simp only [if_true]
    exact .t3 (.t5 r)
  · rw [if_neg h0]
    by_cases h1 : x.all saf = true
    · rw [if_pos h1]
      refine ⟨false, .inr (by simpa using h0), fun {cs st q' tok' cs'} r => ?_⟩
      have hok : ∀ c ∈ x.reverse, okc c := fun c hc => saf_ok (hx c (List.mem_reverse.mp hc)) (List.all_eq_true.mp h1 c (List.mem_reverse.mp hc))
      cases hr : x.reverse with
      | nil => exact absurd (by simpa using hr) h0
      | cons c y =>
        rw [hr] at hok r
        refine .t2 (hok c (.head _)) (run_plain y (fun c hc => hok c (.tail _ hc)) ?_)
        exact r
    · rw [if_neg h1]
      refine ⟨true, .inl rfl, fun {cs st q' tok' cs'} r => ?_⟩
      simp only [List.cons_append, List.reverse_cons, List.reverse_append, List.reverse_nil, List.nil_append, List.append_assoc]
      rw [fm_rev]
      exact .t3 (run_quoted _ (by simpa using r))
theorem toks_pj (ws : List (List Nat)) (hne : ws ≠ []) (h : ∀ x ∈ ws, ∀ c ∈ x, c < 256) : Toks .sp (pj ws) (ws.map List.reverse) := by
  induction ws with
  | nil => exact absurd rfl hne
  | cons x r ih =>
    obtain ⟨q, hq, hrun⟩ := word_run x (h x (.head _))
    cases r with
    | nil =>
      refine .cons (q := q) (st' := .no) (cs' := []) ?_ hq (.nil (st' := .no) (cs' := []) .t13)
      have := hrun (cs := []) .t12
      simpa [pj] using this
    | cons y r =>
      refine .cons (q := q) (st' := .sp) (cs' := pj (y :: r)) ?_ hq (ih (by simp) fun x hx => h x (.tail _ hx))
      exact hrun (.t11 hq)
theorem toks_space {cs : List Nat} {l : List (List Nat)} (h : Toks .sp cs l) : Toks .sp (32 :: cs) l := by
  cases h with
  | nil h => exact .nil (.t1 h)
  | cons h hq ht => exact .cons (.t1 h) hq ht
def rotr (wl : List (List Nat)) (k : Nat) : List (List Nat) := wl.drop k ++ wl.take k
theorem toks_line (wl : List (List Nat)) (k : Nat) (hk : k < wl.length) (h : ∀ x ∈ wl, ∀ c ∈ x, c < 256) : Toks .sp ((jl (wl.take k)).reverse ++ 32 :: (jl (wl.drop k)).reverse) ((rotr wl k).reverse.map List.reverse) := by
  have e1 : (jl (wl.take k)).reverse = pj (wl.take k).reverse := by rw [← jl_rev, List.reverse_reverse]
  have e2 : (jl (wl.drop k)).reverse = pj (wl.drop k).reverse := by rw [← jl_rev, List.reverse_reverse]
  rw [e1, e2]
  have hd : (wl.drop k).reverse ≠ [] := by
    intro e
    have := congrArg List.length e
    simp at this
    omega
  unfold rotr
  rw [List.reverse_append]
  by_cases h0 : (wl.take k).reverse = []
  · rw [h0, List.nil_append]
    exact toks_space (toks_pj _ hd fun x hx => h x (List.mem_of_mem_drop (List.mem_reverse.mp hx)))
  · rw [← pj_append _ _ h0 hd]
    refine toks_pj _ (by simp [hd]) fun x hx => ?_
    rcases List.mem_append.mp hx with hx | hx
    · exact h x (List.mem_of_mem_take (List.mem_reverse.mp hx))
    · exact h x (List.mem_of_mem_drop (List.mem_reverse.mp hx))
end
-- P2
section
def fold (r : List (List Nat)) : Option Forest := (r.reverse.map List.reverse).foldl grown (some .nil)
theorem fold_cons (w : List Nat) (r : List (List Nat)) : fold (w :: r) = grown (fold r) w.reverse := by
  unfold fold
  simp
theorem take_drop_written (F : Forest) : ∀ k, (F.take k).written ++ (F.drop k).written = F.written := by
  induction F with
  | nil => intro k; cases k <;> rfl
  | cons w c r _ ih =>
    intro k
    cases k with
    | zero => rfl
    | succ k => simp only [Forest.take, Forest.drop, Forest.written, List.cons_append, List.append_assoc]; rw [ih]
theorem drop_len (F : Forest) : ∀ k, k ≤ F.len → (F.drop k).len = F.len - k := by
  induction F with
  | nil => intro k h; cases k <;> simp [Forest.drop, Forest.len]
  | cons w c r _ ih =>
    intro k h
    cases k with
    | zero => rfl
    | succ k =>
      simp only [Forest.len] at h ⊢
      simp only [Forest.drop]
      rw [ih k (by omega)]
      omega
theorem fold_written (r : List (List Nat)) : ∀ F, fold r = some F → F.written = r := by
  induction r with
  | nil => intro F h; cases h; rfl
  | cons w r ih =>
    intro F h
    rw [fold_cons] at h
    cases hf : fold r with
    | none => rw [hf] at h; cases h
    | some G =>
      rw [hf] at h
      have h : (if G.len < w.reverse.length then none else some (Forest.cons w.reverse.reverse (G.take w.reverse.length) (G.drop w.reverse.length))) = some F := h
      split at h
      · cases h
      · cases h
        simp only [Forest.written, List.reverse_reverse]
        rw [take_drop_written, ih G hf]
def goes : List Nat → Option Nat
  | [] => some 0
  | l :: r => match goes r with
    | none => none
    | some n => if n < l then none else some (n + 1 - l)
theorem fold_goes (r : List (List Nat)) : (fold r).map Forest.len = goes (r.map List.length) := by
  induction r with
  | nil => rfl
  | cons w r ih =>
    rw [fold_cons, List.map_cons, goes]
    cases hf : fold r with
    | none => rw [hf] at ih; rw [← ih]; rfl
    | some G =>
      rw [hf] at ih
      rw [← ih]
      (show (if G.len < w.reverse.length then none else some (Forest.cons w.reverse.reverse (G.take w.reverse.length) (G.drop w.reverse.length))).map Forest.len = if G.len < w.length then none else some (G.len + 1 - w.length))
      rw [List.length_reverse]
      by_cases h : G.len < w.length
      · rw [if_pos h, if_pos h]; rfl
      · rw [if_neg h, if_neg h]
        simp only [Option.map_some, Forest.len]
        rw [drop_len _ _ (by omega)]
        congr 1
        omega
def cnt (ls : List Nat) : Nat := ((List.range ls.length).filter fun k => (goes (ls.drop k ++ ls.take k)).isSome).length
def bal (ls : List Nat) : Int := max 0 ((ls.map fun (l : Nat) => (1 : Int) - (l : Int)).sum)
theorem cyc3 : ∀ a b c : Fin 4, (cnt [a.val, b.val, c.val] : Int) = bal [a.val, b.val, c.val] := by decide +kernel
theorem cyc4 : ∀ a b c d : Fin 4, (cnt [a.val, b.val, c.val, d.val] : Int) = bal [a.val, b.val, c.val, d.val] := by decide +kernel
theorem cyc5 : ∀ a b c d e : Fin 4, (cnt [a.val, b.val, c.val, d.val, e.val] : Int) = bal [a.val, b.val, c.val, d.val, e.val] := by decide +kernel
theorem cyc (ls : List Nat) (h1 : 3 ≤ ls.length) (h2 : ls.length ≤ 5) (h : ∀ l ∈ ls, l < 4) : (cnt ls : Int) = bal ls := by
  match ls, h1, h2, h with
  | [a, b, c], _, _, h => exact cyc3 ⟨a, h a (by simp)⟩ ⟨b, h b (by simp)⟩ ⟨c, h c (by simp)⟩
  | [a, b, c, d], _, _, h => exact cyc4 ⟨a, h a (by simp)⟩ ⟨b, h b (by simp)⟩ ⟨c, h c (by simp)⟩ ⟨d, h d (by simp)⟩
  | [a, b, c, d, e], _, _, h => exact cyc5 ⟨a, h a (by simp)⟩ ⟨b, h b (by simp)⟩ ⟨c, h c (by simp)⟩ ⟨d, h d (by simp)⟩ ⟨e, h e (by simp)⟩
  | [], h1, _, _ => simp at h1
  | [_], h1, _, _ => simp at h1
  | [_, _], h1, _, _ => simp at h1
  | _ :: _ :: _ :: _ :: _ :: _ :: _, _, h2, _ => simp at h2
theorem law_count (wl : List (List Nat)) (h1 : 3 ≤ wl.length) (h2 : wl.length ≤ 5) (h : ∀ x ∈ wl, x.length ≤ 3) :
    (((List.range wl.length).filter fun k => (fold (rotr wl k)).isSome).length : Int) = max 0 ((wl.map fun x => (1 : Int) - (x.length : Int)).sum) := by
  have := cyc (wl.map List.length) (by simpa using h1) (by simpa using h2) (by
    intro l hl
    obtain ⟨x, hx, rfl⟩ := List.mem_map.mp hl
    have := h x hx
    omega)
  have e1 : cnt (wl.map List.length) = ((List.range wl.length).filter fun k => (fold (rotr wl k)).isSome).length := by
    unfold cnt
    rw [List.length_map]
    congr 2
    funext k
    have := fold_goes (rotr wl k)
    have e : (rotr wl k).map List.length = (wl.map List.length).drop k ++ (wl.map List.length).take k := by
      unfold rotr
      rw [List.map_append, List.map_drop, List.map_take]
    rw [e] at this
    rw [← this]
    cases fold (rotr wl k) <;> rfl
  rw [← e1, this]
  unfold bal
  rw [List.map_map]
  rfl
end
-- W29
section
section
variable {w : World} {p : Program} {lo : List Str} {mean : ExcName → Option Value} {mg mb : Str → Option Value} {dp un : Nat} {gd : Option (List Code)} {A₀ : Around} {env : Env} {outer : List Env} {base h₀ : Heap} {L : Addr} {m : Str → Option Value} {s : Shared} {Q E : Value → Shared → Prop} {news : List (Addr × Obj)}
abbrev fsc : Scope := { kind := ScopeKind.function, names := [(Str.ofString ".0", NameKind.local), (Str.ofString "place", NameKind.local), (Str.ofString "_law_forest", NameKind.globalImplicit), (Str.ofString "words", NameKind.free)], isGenerator := false, isCoroutine := false }
theorem fsc_words (hke : env.scope.kind = .function) (hkw : env.kindOf (Str.ofString "words") = some .cell) : relabel fsc env = { fsc with names := [(Str.ofString ".0", NameKind.local), (Str.ofString "place", NameKind.local), (Str.ofString "_law_forest", NameKind.globalImplicit), (Str.ofString "words", NameKind.cell)] } := by
  unfold relabel
  simp only [List.map_cons, List.map_nil, hkw, hke]
  rfl
theorem ne_of_get {h : Heap} {a b : Addr} {x y : Obj} (e1 : h.get? a = some x) (e2 : h.get? b = some y) (hne : x ≠ y) : a ≠ b := by
  rintro rfl
  rw [e1] at e2
  exact hne (Option.some.inj e2)
abbrev fscR : Scope := { fsc with names := [(Str.ofString ".0", NameKind.local), (Str.ofString "place", NameKind.local), (Str.ofString "_law_forest", NameKind.globalImplicit), (Str.ofString "words", NameKind.cell)] }
abbrev cenvR (C Lc : Addr) (env : Env) : Env := { scope := fscR, locals := C, globals := mainGlobals, cells := [(Str.ofString "words", Lc)], qual := env.qual, func := none, code := env.code, frame := env.frame, builtins := env.builtins }
theorem cenv_eq {C Lc : Addr} (hrel : relabel fsc env = fscR) (hg : env.globals = mainGlobals) : compEnvC fsc [(Str.ofString "words", Lc)] C env = cenvR C Lc env := by
  unfold compEnvC
  rw [hrel, hg]
theorem mem_rotr {wl : List (List Nat)} {i : Nat} {x : List Nat} (h : x ∈ rotr wl i) : x ∈ wl := by
  unfold rotr at h
  rcases List.mem_append.mp h with h | h
  · exact List.mem_of_mem_drop h
  · exact List.mem_of_mem_take h
theorem len_rotr (wl : List (List Nat)) (i : Nat) : (rotr wl i).length = wl.length := by
  unfold rotr
  simp
  omega
def Tail (wl : List (List Nat)) (h₀ : Heap) (cells : List (Addr × Obj)) (zs : List Value) : Prop := ∀ j v, zs[j]? = some v → OV (fun a o => h₀.get? a = some o ∨ (a, o) ∈ cells) v (fold (rotr wl j))
def CIv (w : World) (h₀ : Heap) (L W Lc I : Addr) (m : Str → Option Value) (yl : List Value) (cw : Nat) (oc : Obj) (wl : List (List Nat)) (oss : PySem.OsState) (k : Nat) (s' : Shared) : Prop :=
  ∃ i ps' mC zs cells, i ≤ wl.length ∧ k = wl.length + 1 - i ∧ s'.os = oss ∧ AllBare s'.gens ∧ TabOk ps' ∧ IsRangeIter s'.heap I (0 + (i : Nat) * 1) ((wl.length : Int) - (i : Nat)) 1 ∧ zs.length = i ∧ Fr h₀ L s'.heap m ∧
    News h₀ L s'.heap ((755, tabO ps') :: (W, lsObj yl.toArray cw) :: (Lc, oc) :: cells) ∧ s'.heap.Ns (I + 2 : Nat) mC ∧ s'.heap.get? (I + 1 : Nat) = some (LCg.lst zs) ∧ (∀ q ∈ (755, tabO ps') :: (W, lsObj yl.toArray cw) :: (Lc, oc) :: cells, q.1 ≠ I ∧ q.1 ≠ (I + 2 : Nat) ∧ q.1 ≠ (I + 1 : Nat)) ∧ (∀ q ∈ cells, q.1 ≠ 755) ∧ Tail wl h₀ cells zs
theorem LCg_append {prog : Program} {A : Around} {D : Addr} {zs : List Value} {x : Value} {Q : Value → Shared → Prop} (ho : s.heap.get? D = some (LCg.lst zs)) (h : ∀ h', Heap.SameBut D s.heap h' → h'.get? D = some (LCg.lst (zs ++ [x])) → Q .none { s with heap := h' }) (hsz : zs.length ≤ sizeLine) :
    wpAny (model prog w) A (call (.builtin "list.append") [.ref D, x]) Q E s := by
  refine append_at (its := zs.toArray) (n := zs.length) ho ?_ (by simpa using hsz)
  intro h' hs hD
  refine h h' hs ?_
  rw [hD, LCg.lst_snoc]
section
variable {t0 u0 v0 : Tok} {R : Result → Shared → Prop} {wl : List (List Nat)} {yl : List Value} {W Lc I : Addr} {cw : Nat} {oc : Obj} {ps : Array Value} {pa pb pc pd pe pf : Pos} {iter : Expr} {oss : PySem.OsState}
theorem comp_run (X : (K w.params).In h₀) (T : Top p lo mean mg mb h₀) (hf : env.frame = some L) (hke : env.scope.kind = .function) (hd : dp + 70 < recursionLimit) (hu : un + 600 < cLine) (hoc : oc.data = .cell (some (.ref W))) (hW7 : W ≠ 755) (hLc : Lc ≠ 755)
    (hV : TV yl wl) (hl5 : wl.length ≤ 5) (hw3 : ∀ x ∈ wl, x.length ≤ 3 ∧ ∀ c ∈ x, c < 256) (hLlt : @LT.lt Nat _ L I) (fresh0 : ∀ a, @LE.le Nat _ I a → h₀.get? a = none) (h755I : @LT.lt Nat _ 755 I)
    (hend : ∀ ps' mC zs cells s', s'.os = oss → AllBare s'.gens → TabOk ps' → zs.length = wl.length → Fr h₀ L s'.heap m → News h₀ L s'.heap ((755, tabO ps') :: (W, lsObj yl.toArray cw) :: (Lc, oc) :: cells) → s'.heap.Ns (I + 2 : Nat) mC → s'.heap.get? (I + 1 : Nat) = some (LCg.lst zs) →
      (∀ q ∈ (755, tabO ps') :: (W, lsObj yl.toArray cw) :: (Lc, oc) :: cells, q.1 ≠ I ∧ q.1 ≠ (I + 2 : Nat) ∧ q.1 ≠ (I + 1 : Nat)) → Tail wl h₀ cells zs → R (.ok .next) s')
    (h0 : CIv w h₀ L W Lc I m yl cw oc wl oss (wl.length + 1) s) :
    codeN (model PySem.Challenge.rw_op0211_01.row.toRowW.prog w) (Ar dp un gd env []) (.compStart (.ListComp (.Call (.Name (Str.ofString "_law_forest") pa) [.Name (Str.ofString "words") pb, .Name (Str.ofString "place") pc] [] pd) [⟨.Name (Str.ofString "place") pe, iter, [], 0⟩] fsc pf) 0 (.ref I) (.ref (I + 1 : Nat)) (cenvR (I + 2 : Nat) Lc env)) R s := by
  have Wk := Walks.range (prog := PySem.Challenge.rw_op0211_01.row.toRowW.prog) (w := w) (A := Ar dp un gd env []) rfl I 0 1 wl.length
  have hneI : I ≠ (I + 2 : Nat) := by (show ¬ (@Eq Nat I (I + 2))); omega
  have hneI1 : I ≠ (I + 1 : Nat) := by (show ¬ (@Eq Nat I (I + 1))); omega
  have hneD : @Ne Addr (I + 1 : Nat) (I + 2 : Nat) := by (show ¬ (@Eq Nat (I + 1) (I + 2))); omega
  have hLI : L ≠ I := Nat.ne_of_lt hLlt
  have hLC : L ≠ (I + 2 : Nat) := by (show ¬ (@Eq Nat L (I + 2))); omega
  have hLD : L ≠ (I + 1 : Nat) := by (show ¬ (@Eq Nat L (I + 1))); omega
  have n0I := fresh0 I (Nat.le_refl _)
  have n0D := fresh0 (I + 1 : Nat) (by (show @LE.le Nat _ I (I + 1)); omega)
  have n0C := fresh0 (I + 2 : Nat) (by (show @LE.le Nat _ I (I + 2)); omega)
  have loop : codeN (model PySem.Challenge.rw_op0211_01.row.toRowW.prog w) (Ar dp un gd env []) (.compLoop (.ListComp (.Call (.Name (Str.ofString "_law_forest") pa) [.Name (Str.ofString "words") pb, .Name (Str.ofString "place") pc] [] pd) [⟨.Name (Str.ofString "place") pe, iter, [], 0⟩] fsc pf) 0 (.ref I) (.ref (I + 1 : Nat)) (cenvR (I + 2 : Nat) Lc env)) R s := by
    refine codeN_compLoop (CIv w h₀ L W Lc I m yl cw oc wl oss) ?_ (fun _ => rfl) _ _ h0
    clear h0
    rintro k s E' ⟨i, ps', mC, zs, cells, hi, rfl, hos, hgb, hp, hit, hz, F, N, hC, hD, off, o755, hT⟩
    by_cases hlt : i < wl.length
    · refine Wk.item i _ _ _ hlt hit fun v h2 tk2 hPv hit2 hk2 => ?_
      obtain ⟨tv, rfl⟩ := hPv
      have ei : (0 + (i : Int) * 1) = ((i : Nat) : Int) := by omega
      rw [ei]
      refine wpAny_assign_Name (wpAny_storeName_local (m := mC) (by rfl) (hC.at' fun o e => hk2 _ o (by simpa using Ne.symm hneI) e) (fun h3 hn3 hs3 => ?_) rfl)
      have up : ∀ b o, b ≠ I → b ≠ (I + 2 : Nat) → s.heap.get? b = some o → h3.get? b = some o := fun b o h1 h2 e => hs3.extBut b o h2 (hk2 b o (by simpa using h1) e)
      have hit3 : IsRangeIter h3 I (0 + ((i + 1 : Nat) : Int) * 1) ((wl.length : Int) - ((i + 1 : Nat) : Int)) 1 := hs3.extBut _ _ hneI hit2
      have F3 : Fr h₀ L h3 m := ⟨F.ns.at' fun o e => up L o hLI hLC e, fun b o e => up b o (by rintro rfl; rw [n0I] at e; cases e) (by rintro rfl; rw [n0C] at e; cases e) (F.keep b o e), F.above⟩
      have N3 : News h₀ L h3 ((755, tabO ps') :: (W, lsObj yl.toArray cw) :: (Lc, oc) :: cells) := fun q hq => ⟨up _ _ (off q hq).1 (off q hq).2.1 (N q hq).1, (N q hq).2⟩
      have hD3 := up _ _ (Ne.symm hneI1) hneD hD
      obtain ⟨oC, heC, hoC⟩ := LCg.ns_obj hn3
      clear hC hit hit2 hk2 up
      obtain ⟨oI, heI, hoI⟩ : ∃ o, h3.get? I = some o ∧ (∀ h' : Heap, h'.get? I = some o → IsRangeIter h' I (0 + ((i + 1 : Nat) : Int) * 1) ((wl.length : Int) - ((i + 1 : Nat) : Int)) 1) := ⟨_, hit3, fun _ e => e⟩
      have NA : News h₀ L h3 ((755, tabO ps') :: (I, oI) :: ((I + 2 : Nat), oC) :: ((I + 1 : Nat), LCg.lst zs) :: (W, lsObj yl.toArray cw) :: (Lc, oc) :: cells) := by
        intro q hq
        rcases List.mem_cons.mp hq with rfl | hq
        · exact N3 _ (.head _)
        rcases List.mem_cons.mp hq with rfl | hq
        · exact ⟨heI, Ne.symm hLI, n0I⟩
        rcases List.mem_cons.mp hq with rfl | hq
        · exact ⟨heC, Ne.symm hLC, n0C⟩
        rcases List.mem_cons.mp hq with rfl | hq
        · exact ⟨hD3, Ne.symm hLD, n0D⟩
        · exact N3 _ (.tail _ hq)
      have X3 := X.keeps F3.keep
      have T3 := T.keeps F3.keep
      refine evalN_Call ?_
      refine Name_function_global (by rfl) (by rfl) (loadGlobal_global (mg := mg) T3.g (v := .ref 799) (mg_of X3 T3.g (show nsIn (K w.params) mainGlobals (Str.ofString "_law_forest") = some (some (.ref 799)) by kernel_rfl)) ?_) (by decide)
      refine callWithN_K (K := K w.params) (by kernel_rfl) ?_
      refine spliced_more ?_
      refine wpAny_Name (wpAny_loadName_cell (c := Lc) (by rfl) (by rfl) (by rfl) ⟨oc, (N3 (Lc, oc) (by simp)).1, hoc⟩ ?_) (by decide)
      refine spliced_more ?_
      refine wpAny_Name (wpAny_loadName_local (v := .int (i : Int) tv) (by rfl) (by rfl) hn3 (if_pos rfl) ?_) (by decide)
      refine spliced_none ?_
      refine ⟨X3, ?_⟩
      have hro : ∀ q ∈ (I, oI) :: ((I + 2 : Nat), oC) :: ((I + 1 : Nat), LCg.lst zs) :: (W, lsObj yl.toArray cw) :: (Lc, oc) :: cells, q.1 ≠ 755 := by
        intro q hq
        rcases List.mem_cons.mp hq with rfl | hq
        · (show ¬ (@Eq Nat I 755)); omega
        rcases List.mem_cons.mp hq with rfl | hq
        · (show ¬ (@Eq Nat (I + 2) 755)); omega
        rcases List.mem_cons.mp hq with rfl | hq
        · (show ¬ (@Eq Nat (I + 1) 755)); omega
        rcases List.mem_cons.mp hq with rfl | hq
        · exact hW7
        rcases List.mem_cons.mp hq with rfl | hq
        · exact hLc
        · exact o755 q hq
      refine forest_spec (ws := yl) (wl := wl) (k := i) (below_caller h₀) F3 X NA (.tail _ (.tail _ (.tail _ (.head _)))) T X T hf hke ?_ ?_ hgb hp hro hV hl5 hw3 (Nat.le_of_lt hlt) (toks_line wl i hlt fun x hx => (hw3 x hx).2) ?_ ?_ ?_
      · omega
      · omega
      · simp only [List.length_map, List.length_reverse, len_rotr]; omega
      · intro x hx
        obtain ⟨y, hy, rfl⟩ := List.mem_map.mp hx
        have := hw3 y (mem_rotr (List.mem_reverse.mp hy))
        exact ⟨by rw [List.length_reverse]; exact this.1, fun c hc => this.2 c (List.mem_reverse.mp hc)⟩
      intro v s5 ps5 hO hp5 F5 N5 hg5 hos5
      obtain ⟨c5, nc5, pc5, oc5⟩ := ov_cells F5 hO
      have hD5 := (N5 ((I + 1 : Nat), LCg.lst zs) (by simp)).1
      refine LCg_append hD5 ?_ (by rw [hz, sizeLine_eq]; omega)
      intro h6 hs6 hD6
      have hne6 : ∀ q ∈ (755, tabO ps5) :: (W, lsObj yl.toArray cw) :: (Lc, oc) :: (cells ++ c5), q.1 ≠ I ∧ q.1 ≠ (I + 2 : Nat) ∧ q.1 ≠ (I + 1 : Nat) := by
        intro q hq
        rcases List.mem_cons.mp hq with rfl | hq
        · exact ⟨by (show ¬ (@Eq Nat 755 I)); omega, by (show ¬ (@Eq Nat 755 (I + 2))); omega, by (show ¬ (@Eq Nat 755 (I + 1))); omega⟩
        rcases List.mem_cons.mp hq with rfl | hq
        · exact off _ (by simp)
        rcases List.mem_cons.mp hq with rfl | hq
        · exact off _ (by simp)
        rcases List.mem_append.mp hq with hq | hq
        · exact off q (.tail _ (.tail _ (.tail _ hq)))
        · have z := (pc5 q hq).1
          exact ⟨z _ (.head _), z _ (.tail _ (.head _)), z _ (.tail _ (.tail _ (.head _)))⟩
      have N6 : News h₀ L h6 ((755, tabO ps5) :: (W, lsObj yl.toArray cw) :: (Lc, oc) :: (cells ++ c5)) := by
        intro q hq
        have z : s5.heap.get? q.1 = some q.2 ∧ q.1 ≠ L ∧ h₀.get? q.1 = none := by
          rcases List.mem_cons.mp hq with rfl | hq
          · exact N5 _ (.head _)
          rcases List.mem_cons.mp hq with rfl | hq
          · exact N5 _ (by simp)
          rcases List.mem_cons.mp hq with rfl | hq
          · exact N5 _ (by simp)
          rcases List.mem_append.mp hq with hq | hq
          · exact N5 q (.tail _ (.tail _ (.tail _ (.tail _ (.tail _ (.tail _ hq))))))
          · exact nc5 q hq
        exact ⟨hs6.extBut _ _ (hne6 q hq).2.2 z.1, z.2⟩
      refine ⟨wl.length + 1 - (i + 1), by omega, i + 1, ps5, _, zs ++ [v], cells ++ c5, by omega, rfl, hos5.trans hos, hg5, hp5, ?_, by simp [hz], F5.change hs6 (Ne.symm hLD) n0D, N6, (hoC.ns (N5 ((I + 2 : Nat), oC) (by simp)).1).sameBut hs6 (Ne.symm hneD), hD6, hne6, ?_, ?_⟩
      · exact hoI _ (hs6.extBut _ _ hneI1 (N5 (I, oI) (.tail _ (.head _))).1)
      · intro q hq
        rcases List.mem_append.mp hq with hq | hq
        · exact o755 q hq
        · obtain ⟨_, acc, c, e⟩ := pc5 q hq
          refine ne_of_get (nc5 q hq).1 (N5 _ (.head _)).1 ?_
          rw [e]
          intro h
          cases h
      · intro j x hj
        rw [List.getElem?_append] at hj
        split at hj
        · refine (hT j x hj).mono ?_
          intro a o h
          exact h.imp id fun h => List.mem_append_left _ h
        · rename_i hji
          have hj0 : j = i := by
            have := (List.getElem?_eq_some_iff.mp hj).1
            simp at this
            omega
          subst hj0
          rw [hz, Nat.sub_self] at hj
          simp at hj
          subst hj
          refine oc5.mono ?_
          intro a o h
          exact h.imp id fun h => List.mem_append_right _ h
    · have hi' : i = wl.length := by omega
      subst hi'
      refine Wk.done _ _ _ hit fun h2 tk2 hk2 => ?_
      have up : ∀ b o, b ≠ I → s.heap.get? b = some o → h2.get? b = some o := fun b o h1 e => hk2 b o (by simpa using h1) e
      refine hend ps' mC zs cells _ hos hgb hp hz ⟨F.ns.at' fun o e => up L o hLI e, fun b o e => up b o (by rintro rfl; rw [n0I] at e; cases e) (F.keep b o e), F.above⟩ (fun q hq => ⟨up _ _ (off q hq).1 (N q hq).1, (N q hq).2⟩) (hC.at' fun o e => up _ o (Ne.symm hneI) e) (up _ _ (Ne.symm hneI1) hD) off hT
  refine codeN_compStart loop fun E' => ?_
  obtain ⟨i, ps', mC, zs, cells, hi, hk, hos, hgb, hp, hit, hz, F, N, hC, hD, off, o755, hT⟩ := h0
  exact Wk.self i _ _ _ hit loop
end
section
variable {r : Addr} {t0 u0 v0 : Tok} {Q' : Shared → Prop} {wl : List (List Nat)} {yl : List Value} {W Lc : Addr} {cw : Nat} {oc : Obj} {ps : Array Value} {pa pb pc pd pe pf pg py : Pos} {iter : Expr}
theorem forests_comp (X : (K w.params).In h₀) (T : Top p lo mean mg mb h₀) (F : Fr h₀ L s.heap m) (N : News h₀ L s.heap [(755, tabO ps), (W, lsObj yl.toArray cw), (Lc, oc)]) (hf : env.frame = some L) (hloc : env.locals = L) (hke : env.scope.kind = .function) (hg : env.globals = mainGlobals)
    (hkw : env.kindOf (Str.ofString "words") = some .cell) (hkf : env.kindOf (Str.ofString "forests") = some .local) (hp : TabOk ps) (hgb : AllBare s.gens) (hd : dp + 70 < recursionLimit) (hu : un + 600 < cLine) (hoc : oc.data = .cell (some (.ref W))) (hW7 : W ≠ 755) (hLc : Lc ≠ 755)
    (hR : IsRange s.heap r 0 (wl.length : Int) 1 t0 u0 v0) (hV : TV yl wl) (hl5 : wl.length ≤ 5) (hw3 : ∀ x ∈ wl, x.length ≤ 3 ∧ ∀ c ∈ x, c < 256)
    (hret : ∀ (D : Addr) (zs : List Value) (cells : List (Addr × Obj)) (ps' : Array Value) (s' : Shared), Fr h₀ L s'.heap (fun y => if y = Str.ofString "forests" then some (.ref D) else m y) → News h₀ L s'.heap ((D, LCg.lst zs) :: (755, tabO ps') :: (W, lsObj yl.toArray cw) :: (Lc, oc) :: cells) → zs.length = wl.length →
      (∀ j v, zs[j]? = some v → OV (fun a o => h₀.get? a = some o ∨ (a, o) ∈ cells) v (fold (rotr wl j))) → TabOk ps' → AllBare s'.gens → s'.os = s.os → Q' s') :
    wpAny (model PySem.Challenge.rw_op0211_01.row.toRowW.prog w) (Ar dp un gd env []) (pyIter (.ref r)) (fun it s₂ => wpAny (model PySem.Challenge.rw_op0211_01.row.toRowW.prog w) (Ar dp un gd env []) (newList []) (fun acc s₃ =>
      wpAny (model PySem.Challenge.rw_op0211_01.row.toRowW.prog w) (Ar dp un gd env []) (newFunctionEnv fsc env.globals [(Str.ofString "words", Lc)] [] env.qual none .none (some env)) (fun cenv s₄ =>
        codeN (model PySem.Challenge.rw_op0211_01.row.toRowW.prog w) (Ar dp un gd env []) (.compStart (.ListComp (.Call (.Name (Str.ofString "_law_forest") pa) [.Name (Str.ofString "words") pb, .Name (Str.ofString "place") pc] [] pd) [⟨.Name (Str.ofString "place") pe, iter, [], 0⟩] fsc pf) 0 it acc { cenv with scope := relabel fsc env })
          (compPost (model PySem.Challenge.rw_op0211_01.row.toRowW.prog w) (Ar dp un gd env []) E (some (assign (.Name (Str.ofString "forests") py) env)) (fun _ s' => Q' s') acc cenv.locals) s₄) E s₃) E s₂) E s := by
  have hrel := fsc_words hke hkw
  refine wpAny_pyIter_range hR (range_small_of ⟨by omega, by omega⟩ ⟨by omega, by omega⟩ ⟨by omega, by omega⟩) ?_
  have hrs : Builtin.Range.rangeSize 0 (wl.length : Int) 1 = ((wl.length : Nat) : Int) := by
    unfold Builtin.Range.rangeSize
    simp only [gt_iff_lt, show (0 : Int) < 1 by decide, if_true, Int.ediv_one]
    split <;> omega
  rw [hrs]
  generalize hrio : ({ cls := .type "range_iterator", data := .fields #[rawInt 0, rawInt ((wl.length : Nat) : Int), rawInt 1] } : Obj) = riO
  refine wpAny_newObj_type (wpAny_newFunctionEnv (by decide) (by intro y hy; simp at hy) (fun h1 hn1 hs1 => ?_) rfl)
  dsimp only at hn1 hs1 ⊢
  generalize hI : s.heap.objs.size = I at *
  generalize hH1 : s.heap.push riO = H1 at hn1 hs1 ⊢
  have hD : H1.objs.size = I + 1 := by rw [← hH1, Heap.size_push, hI]
  generalize hH2 : H1.push { cls := .type "list", dict := none, data := .seq ([] : List Value).toArray } = H2 at hn1 hs1 ⊢
  have hC : H2.objs.size = I + 2 := by rw [← hH2, Heap.size_push, hD]
  rw [hC] at hn1 hs1 ⊢
  rw [hD]
  have hLlt : @LT.lt Nat _ L I := by rw [← hI]; exact F.ns.lt
  have fresh0 : ∀ a, @LE.le Nat _ I a → h₀.get? a = none := fun a ha => by
    cases e : h₀.get? a with
    | none => rfl
    | some o' => exact absurd (Heap.lt_size (F.keep a o' e)) (by rw [hI]; exact Nat.not_lt.mpr ha)
  have old : ∀ b o, s.heap.get? b = some o → h1.get? b = some o := fun b o e => by
    have hb : @LT.lt Nat _ b I := by rw [← hI]; exact Heap.lt_size e
    refine hs1.extBut b o (by (show ¬ (@Eq Nat b (I + 2))); omega) (Heap.get?_push_of_some _ ?_)
    rw [← hH2]
    refine Heap.get?_push_of_some _ ?_
    rw [← hH1]
    exact Heap.get?_push_of_some _ e
  have hneD : @Ne Addr (I + 1 : Nat) (I + 2 : Nat) := by (show ¬ (@Eq Nat (I + 1) (I + 2))); omega
  have hneI : I ≠ (I + 2 : Nat) := by (show ¬ (@Eq Nat I (I + 2))); omega
  have hDL : h1.get? (I + 1) = some (LCg.lst []) := hs1.extBut _ _ hneD (Heap.get?_push_of_some _ (by rw [← hH2, ← hD]; exact Heap.get?_push_size _ rfl))
  have hIL : IsRangeIter h1 I (0 + ((0 : Nat) : Int) * 1) ((wl.length : Int) - ((0 : Nat) : Int)) 1 := by
    (show h1.get? I = some _)
    refine (hs1.extBut I riO hneI (Heap.get?_push_of_some _ (by rw [← hH2]; exact Heap.get?_push_of_some _ (by rw [← hH1, ← hI]; exact Heap.get?_push_size _ (by rw [← hrio]; rfl))))).trans ?_
    rw [← hrio]
    simp
  have h755I : @LT.lt Nat _ 755 I := by rw [← hI]; exact Heap.lt_size (N _ (.head _)).1
  have offN : ∀ q ∈ [(755, tabO ps), (W, lsObj yl.toArray cw), (Lc, oc)], @LT.lt Nat _ q.1 I := fun q hq => by rw [← hI]; exact Heap.lt_size (N q hq).1
  have F1 : Fr h₀ L h1 m := F.keeps old
  have N1 := News.grown N old
  show codeN _ _ (.compStart _ 0 _ _ (compEnvC fsc [(Str.ofString "words", Lc)] (I + 2) env)) _ _
  rw [cenv_eq hrel hg]
  refine comp_run (m := m) (gd := gd) X T hf hke hd hu hoc hW7 hLc hV hl5 hw3 hLlt fresh0 (by omega) ?_ (s := { s with heap := h1, toks := s.toks + ([] : List (Str × Value)).length }) (oss := s.os) ⟨0, ps, _, [], [], Nat.zero_le _, rfl, rfl, hgb, hp, hIL, rfl, F1, N1, hn1, hDL, ?_, ?_⟩
  · intro ps' mC zs cells s' he hg' hp' hz F' N' hC' hD' off hel
    refine wpAny_assign_Name (wpAny_storeName_local (m := m) hkf ?_ (fun h' hn' hs' => ?_) ?_)
    · rw [hloc]; exact F'.ns
    · refine ⟨mC, hC'.sameBut (by rw [hloc] at hs'; exact hs') (by (show ¬ (@Eq Nat (I + 2) L)); omega), fun h'' hs'' => ?_⟩
      rw [hloc] at hn' hs'
      have hLC : L ≠ (I + 2 : Nat) := by (show ¬ (@Eq Nat L (I + 2))); omega
      refine hret (I + 1) zs cells ps' { s' with heap := h'', toks := s'.toks + 1 } ?_ ?_ hz hel hp' hg' he
      · exact ⟨hn'.sameBut hs'' hLC, fun b o e => hs''.extBut b o (fun h => by have h : b = (I + 2 : Nat) := h; rw [h, fresh0 (I + 2) (by (show @LE.le Nat _ I (I + 2)); omega)] at e; cases e) (hs'.extBut b o (Nat.ne_of_lt (Nat.lt_of_lt_of_le (Heap.lt_size e) F'.above)) (F'.keep b o e)), F'.above⟩
      · intro q hq
        rcases List.mem_cons.mp hq with rfl | hq
        · exact ⟨hs''.extBut _ _ hneD (hs'.extBut _ _ (by (show ¬ (@Eq Nat (I + 1) L)); omega) hD'), by (show ¬ (@Eq Nat (I + 1) L)); omega, fresh0 (I + 1) (by (show @LE.le Nat _ I (I + 1)); omega)⟩
        · exact ⟨hs''.extBut _ _ (off q hq).2.1 (hs'.extBut _ _ (N' q hq).2.1 (N' q hq).1), (N' q hq).2⟩
    · rw [hke]; rfl
  · intro q hq
    have := offN q hq
    refine ⟨?_, ?_, ?_⟩
    · (show ¬ (@Eq Nat q.1 I)); omega
    · (show ¬ (@Eq Nat q.1 (I + 2))); omega
    · (show ¬ (@Eq Nat q.1 (I + 1))); omega
  · refine ⟨fun q hq => (nomatch hq), ?_⟩
    intro j v e
    simp at e
end
end
end
-- U31
section
section
variable {w : World} {prog : Program} {A : Around} {E : Value → Shared → Prop} {s : Shared}
theorem list_item_at {value slice : Expr} {l : Addr} {vs : List Value} {k : Nat} {u : Tok} {v : Value} {Q : Value → Shared → Prop} (hl : s.heap.IsList l vs.toArray) (hv : vs[k]? = some v) (hk : k ≤ 1000) (h : Q v s)
    (hs : subscripted slice false (.ref l) (.int (k : Int) u) = operate [.ref l, .int (k : Int) u] (getItem (.ref l) (.int (k : Int) u)) := by with_unfolding_all rfl) :
    wpAny (model prog w) A (subscriptTail value slice (.ref l) (.int (k : Int) u)) Q E s := by
  have h0 : (0 : Int) ≤ (k : Int) := by omega
  have hfit : (k : Int) < 2 ^ 63 := by omega
  exact tail_any hl.typeIs slot_list_getitem.lookup (wpAny_getItem_list hl h0 hfit (x := v) (by simpa using hv) h) hs
theorem strs_of_tv {vs : List Value} {l : List (List Nat)} (h : TV vs l) : ∃ ss : List PySem.Str, StrsAre vs ss ∧ ss.map (fun x => x.cps.toList) = l := by
  induction h with
  | nil => exact ⟨[], .nil, rfl⟩
  | cons h1 _ ih =>
    obtain ⟨x, t, rfl, hx⟩ := h1
    obtain ⟨ss, h2, h3⟩ := ih
    exact ⟨x :: ss, .cons x t h2, by simp [h3, hx]⟩
theorem str_ext_map : ∀ {a b : List PySem.Str}, a.map (fun x => x.cps.toList) = b.map (fun x => x.cps.toList) → a = b
  | [], [], _ => rfl
  | [], _ :: _, h => by simp at h
  | _ :: _, [], h => by simp at h
  | x :: a, y :: b, h => by
    simp only [List.map_cons, List.cons.injEq] at h
    obtain ⟨h1, h2⟩ := h
    have : x = y := by
      cases x; cases y
      simp only [PySem.Str.mk.injEq]
      exact Array.toList_inj.mp h1
    rw [this, str_ext_map h2]
theorem canLayAll0_strs : ∀ ss : List PySem.Str, (∀ x ∈ ss, PyData.strOk x = true) → PyData.canLayAll0 (ss.map PyData.str) = true
  | [], _ => by simp [PyData.canLayAll0]
  | n :: r, h => by simp [PyData.canLayAll0, PyData.canLay0, canLayAll0_strs r fun x hx => h x (.tail _ hx), h n (.head _)]
theorem depthAll_strs : ∀ ss : List PySem.Str, PyData.depthAll (ss.map PyData.str) ≤ 1
  | [] => by simp [PyData.depthAll]
  | n :: r => by
    have := depthAll_strs r
    simp only [List.map_cons, PyData.depthAll, PyData.depth]
    omega
theorem shaped_strs (ns : List PySem.Str) (h : ∀ x ∈ ns, PyData.strOk x = true) : PySem.SeqAt.shaped (.list (ns.map PyData.str)) = true := by
  have h1 := depthAll_strs ns
  have h2 : PyData.depth (.list (ns.map PyData.str)) ≤ 64 := by simp only [PyData.depth]; omega
  show (PyData.canLay0 (.list (ns.map PyData.str)) && decide (PyData.depth (.list (ns.map PyData.str)) ≤ 64)) = true
  rw [Bool.and_eq_true]
  exact ⟨by simp only [PyData.canLay0]; exact canLayAll0_strs ns h, decide_eq_true h2⟩
theorem eqvAll_strs : ∀ ss : List PySem.Str, PyData.eqvAll (ss.map PyData.str) (ss.map PyData.str) = true
  | [] => by simp [PyData.eqvAll]
  | n :: r => by simp [PyData.eqvAll, PyData.eqv, eqvAll_strs r]
theorem reads_of_strs {h : Heap} {a : Addr} {vs : List Value} {ss : List PySem.Str} (hl : h.IsList a vs.toArray) (hi : StrsAre vs ss) : Reads h (.ref a) (.list (ss.map PyData.str)) [a] := by
  obtain ⟨o, ho, hc, n, hd⟩ := hl
  exact Reads.list ho hc hd (by simpa using StrsAre.reads h hi)
theorem ne_tv {a b : Addr} {vs us : List Value} {l : List (List Nat)} {Q : Value → Shared → Prop} (hl : s.heap.IsList a vs.toArray) (hv : TV vs l) (hl' : s.heap.IsList b us.toArray) (hv' : TV us l) (hc : ∀ x ∈ l, ∀ c ∈ x, c < 256) (hu : A.units + 64 < cLine) (h : Q (.bool false) s) :
    wpAny (model prog w) A (compareOp .NotEq (.ref a) (.ref b)) Q E s := by
  obtain ⟨ss, h1, h2⟩ := strs_of_tv hv
  obtain ⟨ss', h3, h4⟩ := strs_of_tv hv'
  have : ss = ss' := str_ext_map (h2.trans h4.symm)
  subst this
  have hok : ∀ x ∈ ss, PyData.strOk x = true := by
    intro x hx
    have h5 : x.cps.toList ∈ l := by rw [← h2]; exact List.mem_map_of_mem hx
    have h6 := hc _ h5
    unfold PyData.strOk
    rw [Array.all_eq_true']
    intro c hcm
    have := h6 c (by simpa using hcm)
    simp
    omega
  refine ne_dataH (reads_of_strs hl h1) (reads_of_strs hl' h3) (shaped_strs ss hok) (shaped_strs ss hok) hu ?_
  have : PyData.eqv (.list (ss.map PyData.str)) (.list (ss.map PyData.str)) = true := by
    simp only [PyData.eqv]
    exact eqvAll_strs ss
  rw [this]
  exact h
end
end
-- U32
section
section
variable {w : World} {prog : Program} {p : Program} {lo : List Str} {mean : ExcName → Option Value} {mg mb : Str → Option Value} {A : Around} {E : Value → Shared → Prop} {s : Shared} {env : Env} {scope : Scope} {x : Str} {C : Addr} {m₂ : Str → Option Value} {v : Value} {Q : Value → Shared → Prop}
theorem test_notNone {p1 p2 p3 : Pos} {k : Nat} (hk : scope.kind = .function) (h2 : scope.names.lookup x = some .local) (hd2 : (x == ("__debug__" : Str)) = false) (hn : s.heap.Ns C m₂) (hm : m₂ x = some v) :
    wpAny (model prog w) A (forIn [Expr.Compare (.Name x p1) [.IsNot] [.Constant .none k p2] p3] true fun c r => if r = true then do let ok ← isTrue c (compEnv scope C env) (eval c (compEnv scope C env)); pure (ForInStep.yield ok) else pure (ForInStep.yield r)) (fun ok s₃ => ok = (!(v == .none)) ∧ Keeps s s₃) E s := by
  refine wpAny_tests_one (wpAny_isTrue_Compare1 ?_)
  refine wpAny_Name (wpAny_loadName_local (env := compEnv scope C env) hk h2 hn hm ?_) hd2
  refine wpAny_Constant_none ?_
  refine isnot_none_gen ?_
  exact wpAny_truthy_bool ⟨rfl, s.heap, s.toks, rfl, fun _ _ e => e⟩
theorem elt_same {p1 : Pos} (hk : scope.kind = .function) (h2 : scope.names.lookup x = some .local) (hd2 : (x == ("__debug__" : Str)) = false) (hn : s.heap.Ns C m₂) (hm : m₂ x = some v) :
    wpAny (model prog w) A (eval (.Name x p1) (compEnv scope C env)) (fun r s₃ => r = v ∧ Keeps s s₃) E s :=
  wpAny_Name (wpAny_loadName_local (env := compEnv scope C env) hk h2 hn hm ⟨rfl, s.heap, s.toks, rfl, fun _ _ e => e⟩) hd2
theorem elt_len {K : Frag} {p1 p2 p3 p4 p5 : Pos} {k : Nat} {y : PySem.Str} {t : Tok} (X : K.In s.heap) (T : Top p lo mean mg mb s.heap) (e : nsIn K mainGlobals (Str.ofString "len") = some none) (hg : env.globals = mainGlobals) (hb : env.builtins = builtinsNs)
    (hk : scope.kind = .function) (h1 : scope.names.lookup (Str.ofString "len") = some .globalImplicit) (h2 : scope.names.lookup x = some .local) (hd2 : (x == ("__debug__" : Str)) = false) (hn : s.heap.Ns C m₂) (hm : m₂ x = some (.str y t)) (hy : y.length ≤ 1000) :
    wpAny (model prog w) A (eval (.BinOp (.Constant (.int 1) k p1) .Sub (.Call (.Name (Str.ofString "len") p2) [.Name x p3] [] p4) p5) (compEnv scope C env)) (fun r s₃ => (∃ u, r = .int (1 - (y.length : Int)) u) ∧ Keeps s s₃) E s := by
  refine wpAny_BinOp ?_
  refine wpAny_Constant_int ?_
  refine wpAny_Call_Name_kw ?_
  refine Name_function_global (env := compEnv scope C env) hk h1 (loadGlobal_builtin (env := compEnv scope C env) (mg := mg) (mb := mb) (v := .builtin "len") (by (show s.heap.Ns env.globals mg); rw [hg]; exact T.g) (mg_none_of X T.g e) (by (show s.heap.Ns env.builtins mb); rw [hb]; exact T.b) ((T.builtins _ (by decide)).trans boot_len) ?_) (by decide)
  refine PyProof.Rows.callWith_builtin1 ?_
  refine spliced_more ?_
  refine wpAny_Name (wpAny_loadName_local (env := compEnv scope C env) hk h2 hn hm ?_) hd2
  refine spliced_none ?_
  refine len_str (by omega) ?_
  exact sub_int ⟨⟨_, rfl⟩, _, _, rfl, fun _ _ e => e⟩
end
theorem filter_count {zs : List Value} {n : Nat} {pt : Value → Bool} {g : Nat → Bool} (hz : zs.length = n) (h : ∀ j v, zs[j]? = some v → pt v = g j) : (zs.filter pt).length = ((List.range n).filter g).length := by
  have e : zs.map pt = (List.range n).map g := by
    apply List.ext_getElem?
    intro j
    rw [List.getElem?_map, List.getElem?_map]
    cases e : zs[j]? with
    | none =>
      have := List.getElem?_eq_none_iff.mp e
      rw [List.getElem?_eq_none_iff.mpr (by simp; omega)]
      rfl
    | some v =>
      have := (List.getElem?_eq_some_iff.mp e).1
      rw [List.getElem?_range (by omega)]
      simp [h j v e]
  rw [← List.countP_eq_length_filter, ← List.countP_eq_length_filter]
  have e1 : zs.countP pt = (zs.map pt).countP id := by rw [List.countP_map]; rfl
  have e2 : (List.range n).countP g = ((List.range n).map g).countP id := by rw [List.countP_map]; rfl
  rw [e1, e2, e]
def LenG (v r : Value) : Prop := ∃ y t u, v = .str y t ∧ r = .int (1 - (y.length : Int)) u
theorem lens_ints {vs ys : List Value} {l : List (List Nat)} (hv : TV vs l) (h : Paired LenG vs ys) : IntsAre ys (l.map fun x => (1 : Int) - (x.length : Int)) := by
  induction hv generalizing ys with
  | nil => cases h; exact .nil
  | cons h1 _ ih =>
    cases h with
    | cons h2 h3 =>
      obtain ⟨x, t, rfl, rfl⟩ := h1
      obtain ⟨y, t', u, e, rfl⟩ := h2
      cases e
      rw [List.map_cons]
      have : ((x.cps.toList.length : Nat) : Int) = (x.length : Int) := by
        rw [Array.length_toList]; rfl
      rw [this]
      exact .cons _ _ (ih h3)
theorem paired_len {G : Value → Value → Prop} {a b : List Value} (h : Paired G a b) : b.length = a.length := by
  induction h with
  | nil => rfl
  | cons _ _ ih => simp [ih]
end
-- W28
section
section
variable {w : World} {p : Program} {lo : List Str} {mean : ExcName → Option Value} {mg mb : Str → Option Value} {dp un : Nat} {gd : Option (List Code)} {A₀ : Around} {env : Env} {outer : List Env} {base h₀ : Heap} {L : Addr} {m : Str → Option Value} {s : Shared} {Q E : Value → Shared → Prop} {news : List (Addr × Obj)}
theorem codeN_cellR0 {prog : Program} {A : Around} {Kf : Frag} {R : Result → Shared → Prop} {name qual : Str} {params : Arguments} {body : List Stmt} {scope : Scope} {dV kV doc pm cdv ct oc : Value} {an od : Option Addr} {osl : Array (Option Value)} {f : Addr} {args : Args} {binds : List (Str × Value)}
    (hk0 : ∀ b o, h₀.get? b = some o → s.heap.get? b = some o) (hsz : @LE.le Nat _ h₀.objs.size s.heap.objs.size) (X : Kf.In h₀) (T : Top p lo mean mg mb h₀)
    (ho : Kf.lookup f = some ⟨oc, od, .func (fnOf name qual params body scope dV kV doc pm an cdv ct), osl⟩) (hcd : codeIn Kf cdv qual = true) (hroom : A.depth < recursionLimit)
    (hbind : BindsTo s (fnOf name qual params body scope dV kV doc pm an cdv ct) args binds) (hkind : (binds.all fun y => scope.names.lookup y.1 == some .local || scope.names.lookup y.1 == some .cell) = true)
    (hnd : ((cellsFrom 0 scope.names []).map (·.1)).Nodup)
    (h : ∀ L' h₁ tk cells, Fr h₀ L' h₁ (bindL (envOfC qual scope L' f cdv).kindOf binds fun _ => none) → News h₀ L' h₁ cells → (∀ b o, s.heap.get? b = some o → h₁.get? b = some o) → (∀ b, b ≠ L' → s.heap.get? b ≠ none → b ≠ L') → @LE.le Nat _ s.heap.objs.size L' →
      CellsAre (bindC (envOfC qual scope L' f cdv).kindOf binds fun _ => none) (cellsFrom (L' + 1) scope.names []) cells →
      wpN (model prog w) (A.deeper (envOfC qual scope L' f cdv)) (execs body (envOfC qual scope L' f cdv))
        (fun fl s' => R (.ok (.ret (match fl with | .ret v => v | _ => .none))) s')
        (fun e s' => wpAny (model prog w) (A.deeper (envOfC qual scope L' f cdv)) (leaving (envOfC qual scope L' f cdv) e) (fun _ s'' => R (.error e) s'') (fun e' s'' => R (.error e') s'') s')
        { s with heap := h₁, toks := tk })
    (hco : scope.isCoroutine = false) (hgen : scope.isGenerator = false) (hk : scope.kind = .function) : codeN (model prog w) A (.call (.ref f) args) R s := by
  have X' := X.keeps hk0
  refine codeN_call_function hroom (X' _ _ ho) rfl hco hgen rfl (codeRec_of X' hcd) (hbind _ _ _ _ ?_)
  refine wpAny_newFunctionEnv_cells hk (kindsX hkind _) fun env' he s' x => ?_
  subst he
  refine ⟨(T.nolimit.keeps hk0).keeps x.toInCall.keep, codeN_func ?_⟩
  obtain ⟨h₁, tk, rfl, _⟩ := x.done
  have hk₁ := x.toInCall.keep
  obtain ⟨cells, NC, Y⟩ := Cl.news (h₀ := s.heap) (Nat.le_refl _) fun n c hm => ⟨x.cell n c (lookup_of_mem_nodup (cellsFrom_names scope.names 0 (s.heap.objs.size + 1) [] [] rfl ▸ hnd) hm), x.above n c hm⟩
  refine h s.heap.objs.size h₁ tk cells ⟨x.toInCall.ns, fun b o e => hk₁ b o (hk0 b o e), hsz⟩ (fun q hq => ⟨(NC q hq).1, (NC q hq).2.1, ?_⟩) hk₁ (fun b h _ => h) (Nat.le_refl _) Y
  cases e : h₀.get? q.1 with
  | none => rfl
  | some o => have := hk0 _ _ e; rw [(NC q hq).2.2] at this; cases this
local macro_rules | `(tactic| walk_at "eval ListComp") => `(tactic| (k_here; (with_reducible apply ListComp_rowsP); (case hfree | hcell => decide); (case hkind => with_unfolding_all rfl); (case hnames => decide); (case hx => with_unfolding_all rfl); (case hs => intro _; with_unfolding_all rfl)))
local macro_rules | `(tactic| walk_at "pyIter ref") => `(tactic| (k_here; (with_reducible show wpAny _ _ (pyIter (Value.ref _)) _ _ _); refine stop_in ?_))
local macro_rules | `(tactic| walk_at "subscriptTail") => `(tactic| (k_here; (with_reducible show wpAny _ _ (subscriptTail _ _ (Value.ref _) (Value.int _ _)) _ _ _); refine stop_in ?_))
local macro_rules | `(tactic| walk_at "call ref") => `(tactic| (k_here; (with_reducible show wpAny _ _ (call (Value.ref 806) _ _) _ _ _); refine stop_in ?_))
local macro_rules | `(tactic| walk_at "compareOp NotEq ref ref") => `(tactic| (k_here; refine stop_in ?_))
theorem filt_true (l : List Value) : l.filter (fun _ => true) = l := by simp
theorem ints_mem {vs : List Value} {ns : List Int} (h : IntsAre vs ns) : ∀ v ∈ vs, ∃ n t, v = .int n t := by
  induction h with
  | nil => intro v hv; cases hv
  | cons n t _ ih =>
    intro v hv
    rcases List.mem_cons.mp hv with rfl | hv
    · exact ⟨n, t, rfl⟩
    · exact ih v hv
def WordG (v r : Value) : Prop := ∃ n t x u, v = .int n t ∧ r = .str x u ∧ x.cps.toList = wordOf n
theorem wordOf_len (n : Int) : (wordOf n).length ≤ 3 := by
  unfold wordOf
  simp
  omega
theorem wordOf_lt (n : Int) : ∀ c ∈ wordOf n, c < 256 := by
  intro c hc
  unfold wordOf at hc
  obtain ⟨k, _, rfl⟩ := List.mem_map.mp hc
  omega
theorem words_tv {vs ys : List Value} {ns : List Int} (hI : IntsAre vs ns) (h : Paired WordG vs ys) : TV ys (ns.map wordOf) := by
  induction hI generalizing ys with
  | nil => cases h; exact .nil
  | cons n t _ ih =>
    cases h with
    | cons h1 h2 =>
      obtain ⟨n', t', x, u, e, rfl, hx⟩ := h1
      cases e
      exact .cons ⟨x, u, rfl, hx⟩ (ih h2)
abbrev lawMap (l D : Addr) (vp : Option Value) : Str → Option Value := fun y => if y = Str.ofString "place" then vp else if y = Str.ofString "forests" then some (.ref D) else if y = Str.ofString "script" then some (.ref l) else none
section
variable {l : Addr} {vs : List Value} {ns : List Int} {ps : Array Value}
theorem law_spec {R : Result → Shared → Prop} (hk0 : ∀ b o, h₀.get? b = some o → s.heap.get? b = some o) (hsz : @LE.le Nat _ h₀.objs.size s.heap.objs.size) (X : (K w.params).In h₀) (T : Top p lo mean mg mb h₀)
    (h755 : s.heap.get? 755 = some (tabO ps)) (h755n : h₀.get? 755 = none) (hp : TabOk ps) (hg : AllBare s.gens) (hL : h₀.IsList l vs.toArray) (hI : IntsAre vs ns) (hn : ns.length ≤ 63)
    (hret : ∀ s' ps', (∀ b o, h₀.get? b = some o → s'.heap.get? b = some o) → s'.heap.get? 755 = some (tabO ps') → TabOk ps' → AllBare s'.gens → s'.os = s.os → R (.ok (.ret (.bool true))) s') :
    codeN (model PySem.Challenge.rw_op0211_01.row.toRowW.prog w) callerA (.call (.ref 811) ⟨[.ref l], []⟩) R s := by
  revert X; k_fill; intro X
  refine' codeN_cellR0 (binds := [(Str.ofString "script", .ref l)]) hk0 hsz X T ?k6 ?k7 ?k8 ?k9 ?kB ?kN ?_ ?c2 ?c3 ?c4
  case k6 => k_is
  case k7 => k_is
  case k8 => decide
  case k9 => first | exact BindsTo.of_eq rfl | exact binds_K (by k_in) rfl (by k_is) rfl rfl rfl
  case kB => with_unfolding_all rfl
  case kN => with_unfolding_all decide
  case c2 => exact rfl
  case c3 => exact rfl
  case c4 => exact rfl
  k_whole
  intro L1 h1 tk1 cells F1 N1 hk1 _ hL1 Y
  obtain ⟨oc, rfl, hoc⟩ := Y.one
  have h755L : (755 : Addr) ≠ L1 := by
    have : @LT.lt Nat _ 755 s.heap.objs.size := Heap.lt_size h755
    (show ¬ (@Eq Nat 755 L1))
    omega
  replace N1 : News h₀ L1 h1 [(755, tabO ps), (L1 + 1, oc)] := by
    intro q hq
    rcases List.mem_cons.mp hq with rfl | hq
    · exact ⟨hk1 _ _ h755, h755L, h755n⟩
    · exact N1 q hq
  have hvs : vs.length ≤ 63 := by rw [hI.length]; exact hn
  replace F1 : Fr h₀ L1 h1 (fun y => if y = Str.ofString "script" then some (.ref l) else none) := by
    refine cast (congrArg (Fr h₀ L1 h1) ?_) F1
    unfold bindL
    rw [if_pos (by with_unfolding_all rfl)]
    rfl
  refine execsN_cons (wpN_any ?_)
  k_steps
  unfold Stop
  rename News h₀ L1 _ _ => N2
  rename Fr h₀ L1 _ _ => F2
  rename IntsAre _ (List.take 5 _) => I2
  refine src_list (h₀ := h₀) rfl F2 N2 (News.isList N2 (.head _)) ?_ (fun _ => true) WordG ?_ ?_ ?_
  · rw [I2.length]; simp; omega
  · intro C v s₂ m₂ E' hv hn' hm hk
    exact wpAny_pure ⟨rfl, _, _, rfl, fun _ _ e => e⟩
  · intro C v s₂ m₂ E' hv hn' hm hk
    have kk : ∀ b o, h₀.get? b = some o → s₂.heap.get? b = some o := fun b o e => hk b o (F2.keep b o e)
    obtain ⟨n, t, rfl⟩ := ints_mem I2 v hv
    refine elt_fn (X.keeps kk) (T.keeps kk) (by k_is) (by kernel_rfl) (by decide) (by decide) rfl rfl rfl rfl hn' hm ?_
    refine word_spec (X.keeps kk) (T.keeps kk) rfl ?_ ?_ ?_
    · (show 1 + claimMargin + 1 + 20 < recursionLimit); decide
    · (show 4 + 3 + 90 < cLine); decide
    intro r t' h' tk' hr hk'
    exact ⟨⟨n, t, r, t', rfl, rfl, hr⟩, h', tk', rfl, hk'⟩
  intro W ys cw h3 tk3 F3 N3 hne3 hP
  rw [filt_true] at hP
  have hTV : TV ys.toList (((ns ++ [100742, 0, 0]).take 5).map wordOf) := words_tv I2 hP
  replace N3 : News h₀ L1 h3 [(W, lsObj ys.toList.toArray cw), (755, tabO ps), (L1 + 1, oc)] := by
    refine cb_drop N3 ?_
    intro q hq
    simp only [List.mem_cons, List.not_mem_nil, or_false] at hq ⊢
    rcases hq with rfl | rfl | rfl
    · exact .inl (by simp)
    · simp
    · simp
  have hW755 : W ≠ 755 := by
    rintro rfl
    have e1 := (N3 _ (.head _)).1
    have e2 := (N3 _ (.tail _ (.head _))).1
    simp only at e1 e2
    rw [e1] at e2
    cases e2
  have hWc : W ≠ L1 + 1 := hne3 (L1 + 1, oc) (by simp) |> Ne.symm
  clear F2 N2 hP I2
  generalize ys.toList = yl at *
  k_steps
  rename_i h4 oc4 F4 N4 hoc4
  replace N4 : News h₀ L1 h4 [(755, tabO ps), (W, lsObj yl.toArray cw), (L1 + 1, oc4)] := by
    refine cb_drop N4 ?_
    intro q hq
    simp only [List.mem_cons, List.not_mem_nil, or_false, List.cons_append, List.nil_append] at hq ⊢
    rcases hq with rfl | rfl | rfl <;> simp
  generalize hwl : ((ns ++ [100742, 0, 0]).take 5).map wordOf = wl at hTV
  have hl3 : 3 ≤ wl.length := by rw [← hwl]; simp; omega
  have hl5 : wl.length ≤ 5 := by rw [← hwl]; simp; omega
  have hw3 : ∀ x ∈ wl, x.length ≤ 3 ∧ ∀ c ∈ x, c < 256 := by
    intro x hx
    rw [← hwl] at hx
    obtain ⟨n, _, rfl⟩ := List.mem_map.mp hx
    exact ⟨wordOf_len n, wordOf_lt n⟩
  try clear F3
  try clear N3
  have hyl : yl.length = wl.length := hTV.length
  have hLW : h4.IsList W yl.toArray := News.isList N4 (.tail _ (.head _))
  have hys : yl.length ≤ 16777216 := by omega
  refine execsN_cons ?_
  refine execN_AssignComp (cl := [(Str.ofString "words", L1 + 1)]) (by rfl) (by rfl) (by rfl) (by decide) ?_ (by intro _; rfl)
  k_steps
  refine len_list (items := yl.toArray) hLW (by simp only [List.size_toArray]; omega) ?_
  k_steps
  rename IsRange _ _ _ _ _ _ _ _ => R5
  rename Fr h₀ L1 _ _ => F5
  rename News h₀ L1 _ _ => N5
  have esz : ((yl.length : Nat) : Int) = (wl.length : Int) := by omega
  rw [esz] at R5
  have hLc7 : L1 + 1 ≠ 755 := fun h => by
    have e1 := (N5 (L1 + 1, oc4) (by simp)).1
    have e2 := (N5 (755, tabO ps) (by simp)).1
    rw [h, e2] at e1
    cases e1
    cases hoc4
  refine' forests_comp (dp := 1 + claimMargin + 1) (un := 4 + 3) (gd := some []) (L := L1) (W := W) (Lc := L1 + 1) (yl := yl) (wl := wl) X T ?n1 ?n2 ?n3 ?n4 ?n5 ?n6 ?n7 ?n8 hp ?n9 ?n10 ?n11 hoc4 hW755 hLc7 ?n12 hTV hl5 hw3 ?n13
  case n1 => exact F5
  case n2 => exact N5
  case n12 => exact R5
  case n3 => rfl
  case n4 => rfl
  case n5 => rfl
  case n6 => rfl
  case n7 => rfl
  case n8 => rfl
  case n9 => exact hg
  case n10 => (show 1 + claimMargin + 1 + 70 < recursionLimit); decide
  case n11 => (show 4 + 3 + 600 < cLine); decide
  intro D zs cells ps5 s5 F6 N6 hz hT hp5 hg5 hos5
  try clear R5
  try clear N5
  try clear F5
  try clear hLW
  try clear N4
  try clear F4
  try clear Y
  try clear hoc
  have hLW6 : s5.heap.IsList W yl.toArray := News.isList N6 (.tail _ (.tail _ (.head _)))
  clear esz
  have hpk : Stop (3 ≤ wl.length ∧ wl.length ≤ 5 ∧ yl.length = wl.length) := ⟨hl3, hl5, hyl⟩
  clear hl3 hl5 hyl
  refine wpN_any ?_
  k_steps
  refine len_list (items := yl.toArray) hLW6 (by simp only [List.size_toArray]; omega) ?_
  k_steps
  unfold Stop
  rename IsRange _ _ _ _ _ _ _ _ => R7
  rename Fr h₀ L1 _ _ => F7
  rename News h₀ L1 _ _ => N7
  obtain ⟨hl3, hl5, hyl⟩ : 3 ≤ wl.length ∧ wl.length ≤ 5 ∧ yl.length = wl.length := hpk
  have esz : ((yl.length : Nat) : Int) = (wl.length : Int) := by omega
  rw [esz] at R7
  try clear F6
  try clear N6
  try clear hLW6
  have hrs : Builtin.Range.rangeSize 0 (wl.length : Int) 1 = ((wl.length : Nat) : Int) := by
    unfold Builtin.Range.rangeSize
    simp only [gt_iff_lt, show (0 : Int) < 1 by decide, if_true, Int.ediv_one]
    split <;> omega
  refine iter_rangeJ (n := wl.length) (fun i m nx => ∃ vp, m = lawMap l D vp ∧ nx = (D, LCg.lst zs) :: (755, tabO ps5) :: (W, lsObj yl.toArray cw) :: (L1 + 1, oc4) :: cells) rfl R7 (range_small_of ⟨by omega, by omega⟩ ⟨by omega, by omega⟩ ⟨by omega, by omega⟩) hrs F7 N7 ?hj ?turn ?done
  case hj =>
    refine ⟨none, ?_, rfl⟩
    funext y
    by_cases h1 : y = Str.ofString "place"
    · subst h1
      simp only [lawMap, if_pos, if_neg (show ¬ (Str.ofString "place" = Str.ofString "forests") by decide +kernel), if_neg (show ¬ (Str.ofString "place" = Str.ofString "script") by decide +kernel)]
    · simp only [lawMap, if_neg h1]
  case turn =>
    rintro i t m₁ nx h8 tk8 own hi - ho ⟨vp, rfl, rfl⟩ F8 N8
    clear F7 N7 R7
    have ei : (0 + (i : Int) * 1) = ((i : Nat) : Int) := by omega
    rw [ei] at F8
    obtain ⟨v, hv⟩ : ∃ v, zs[i]? = some v := ⟨zs[i]'(by omega), List.getElem?_eq_getElem (by omega)⟩
    have hv' : zs.toArray[i]? = some v := by simpa using hv
    have hO := hT i v hv
    have hzl : zs.length ≤ 1000 := by omega
    generalize hfo : fold (rotr wl i) = fo at hO
    replace F8 : Fr h₀ L1 h8 (fun y => if y = Str.ofString "place" then some (.int (i : Int) t) else lawMap l D vp y) := F8
    replace N8 : News h₀ L1 h8 ((D, LCg.lst zs) :: (755, tabO ps5) :: (W, lsObj yl.toArray cw) :: (L1 + 1, oc4) :: (cells ++ own)) := N8
    have hfin : (fun y => if y = Str.ofString "place" then some (Value.int (i : Int) t) else lawMap l D vp y) = lawMap l D (some (.int (i : Int) t)) := by
      funext y
      by_cases h1 : y = Str.ofString "place"
      · simp only [lawMap, if_pos h1]
      · simp only [lawMap, if_neg h1]
    rw [hfin] at F8
    cases hO with
    | none =>
      k_steps
      unfold Stop
      refine list_item_at (News.isList N8 (.head _)) hv (by omega) ?_
      k_steps
      rename News h₀ L1 _ _ => N9
      rename Fr h₀ L1 _ _ => F9
      have N9' : News h₀ L1 h8 (((D, LCg.lst zs) :: (755, tabO ps5) :: (W, lsObj yl.toArray cw) :: (L1 + 1, oc4) :: cells) ++ own) := N9
      exact ⟨_, _, _, _, _, rfl, F9, N9', fun q hq => List.mem_append_left own hq, fun q hq => List.mem_append_right _ hq, rfl, _, rfl, rfl⟩
    | some h1 h2 =>
      rename_i a c vs8 F0
      have hFw := fold_written _ _ hfo
      have hFs : F0.size ≤ 5 := by
        have e1 := Forest.written_len F0
        rw [hFw, len_rotr] at e1
        omega
      have up8 : ∀ a o, (h₀.get? a = some o ∨ (a, o) ∈ cells) → h8.get? a = some o := by
        intro a o h
        rcases h with h | h
        · exact F8.keep _ _ h
        · exact (N8 (a, o) (.tail _ (.tail _ (.tail _ (.tail _ (List.mem_append_left _ h)))))).1
      k_steps
      unfold Stop
      refine list_item_at (News.isList N8 (.head _)) hv (by omega) ?_
      k_steps
      unfold Stop
      refine list_item_at (News.isList N8 (.head _)) hv (by omega) ?_
      k_steps
      unfold Stop
      refine written_spec 5 (X.keeps F8.keep) (T.keeps F8.keep) rfl ?_ ?_ (up8 _ _ h1) (h2.mono up8) hFs (by omega) ?_
      · (show 1 + claimMargin + 1 + 3 * 5 + 10 < recursionLimit); decide
      · (show 4 + 3 + 10 * 5 + 90 < cLine); decide
      intro D9 ws9 c9 h9 tk9 hD9 hT9 hk9
      rw [hFw] at hT9
      have F9 := F8.keeps hk9
      have hD9L : D9 ≠ L1 := by
        rintro rfl
        obtain ⟨o, es, ep, ho, hd, _⟩ := F9.ns
        rw [hD9] at ho
        cases ho
        cases hd
      have N9 := News.grown N8 hk9
      obtain ⟨extra, NX, hx⟩ : ∃ extra, News h₀ L1 h9 ((D, LCg.lst zs) :: (755, tabO ps5) :: (W, lsObj yl.toArray cw) :: (L1 + 1, oc4) :: (cells ++ (own ++ extra))) ∧ ∀ h' m', Fr h₀ L1 h' m' → (∀ q ∈ extra, h'.get? q.1 = some q.2) → h'.get? D9 = some (lsO ws9.toArray c9) := by
        cases e : h₀.get? D9 with
        | some o =>
          have := F9.keep _ _ e
          rw [hD9] at this
          cases this
          exact ⟨[], by simpa using N9, fun h' m' F' _ => F'.keep _ _ e⟩
        | none =>
          refine ⟨[(D9, lsO ws9.toArray c9)], ?_, fun h' m' _ hq => hq _ (.head _)⟩
          intro q hq
          simp only [List.mem_cons, List.mem_append, List.not_mem_nil, or_false] at hq
          rcases hq with h | h | h | h | h | h | h
          · exact N9 q (by rw [h]; exact .head _)
          · exact N9 q (by rw [h]; exact .tail _ (.head _))
          · exact N9 q (by rw [h]; exact .tail _ (.tail _ (.head _)))
          · exact N9 q (by rw [h]; exact .tail _ (.tail _ (.tail _ (.head _))))
          · exact N9 q (.tail _ (.tail _ (.tail _ (.tail _ (List.mem_append_left _ h)))))
          · exact N9 q (.tail _ (.tail _ (.tail _ (.tail _ (List.mem_append_right _ h)))))
          · rw [h]; exact ⟨hD9, hD9L, e⟩
      clear F8 N8 N9
      k_steps
      rename News h₀ L1 _ _ => N10
      rename Fr h₀ L1 _ _ => F10
      refine kmk_add_lit F10 N10 (News.isList N10 (.tail _ (.head _))) (News.isList N10 (.head _)) rfl ?_ ?hz
      case hz =>
        rw [pick_from _ _ (by omega), pick_up, sizeLine_eq]
        simp
        omega
      intro D12 h12 F12 N12 l12
      rw [pick_from _ _ (by omega), pick_up] at N12
      k_steps
      unfold Stop
      rename News h₀ L1 _ _ => N13
      rename Fr h₀ L1 _ _ => F13
      have hD13 := hx _ _ F13 fun q hq => (N13 q (.tail _ (.tail _ (.tail _ (.tail _ (.tail _ (.tail _ (.tail _ (List.mem_append_right _ (List.mem_append_right _ hq)))))))))).1
      refine ne_tv ⟨_, hD13, rfl, c9, rfl⟩ hT9 (News.isList N13 (.head _)) ((hTV.drop i).append (hTV.take i)) (fun x hx => (hw3 x (mem_rotr hx)).2) ?_ ?_
      · (show 4 + 3 + 64 < cLine); decide
      clear hx
      k_steps
      rename News h₀ L1 _ _ => N14
      rename Fr h₀ L1 _ _ => F14
      have N14' := cb_drop (news := ((D, LCg.lst zs) :: (755, tabO ps5) :: (W, lsObj yl.toArray cw) :: (L1 + 1, oc4) :: cells) ++ own) N14 (fun q hq => by
        refine .tail _ (.tail _ (.tail _ ?_))
        simp only [List.cons_append, List.mem_cons, List.mem_append] at hq
        rcases hq with h | h | h | h | h | h
        · rw [h]; exact .head _
        · rw [h]; exact .tail _ (.head _)
        · rw [h]; exact .tail _ (.tail _ (.head _))
        · rw [h]; exact .tail _ (.tail _ (.tail _ (.head _)))
        · exact .tail _ (.tail _ (.tail _ (.tail _ (List.mem_append_left _ h))))
        · exact .tail _ (.tail _ (.tail _ (.tail _ (List.mem_append_right _ (List.mem_append_left _ h))))))
      exact ⟨_, _, _, _, _, rfl, F14, N14', fun q hq => List.mem_append_left own hq, fun q hq => List.mem_append_right _ hq, rfl, _, rfl, rfl⟩
  case done =>
    rintro m₁ nx h8 tk8 ⟨vp, rfl, rfl⟩ F8 N8
    clear F7 N7 R7
    replace F8 : Fr h₀ L1 h8 (lawMap l D vp) := F8
    replace N8 : News h₀ L1 h8 ((D, LCg.lst zs) :: (755, tabO ps5) :: (W, lsObj yl.toArray cw) :: (L1 + 1, oc4) :: cells) := N8
    have hpk : Stop (3 ≤ wl.length ∧ wl.length ≤ 5 ∧ yl.length = wl.length ∧ zs.length = wl.length) := ⟨hl3, hl5, hyl, hz⟩
    clear hl3 hl5 hyl esz
    k_steps
    unfold Stop
    obtain ⟨hl3, hl5, hyl, _⟩ : 3 ≤ wl.length ∧ wl.length ≤ 5 ∧ yl.length = wl.length ∧ zs.length = wl.length := hpk
    refine src_list (h₀ := h₀) rfl F8 N8 (News.isList N8 (.head _)) (by omega) (fun v => !(v == .none)) (fun v r => r = v) ?_ ?_ ?_
    · intro C v s₂ m₂ E' hv hn' hm hk
      exact test_notNone rfl rfl (by decide) hn' hm
    · intro C v s₂ m₂ E' hv hn' hm hk
      exact elt_same rfl rfl (by decide) hn' hm
    intro D9 ys9 c9 h9 tk9 F9 N9 hne9 hP9
    have hfc : (zs.filter fun v => !(v == .none)).length = ((List.range wl.length).filter fun k => (fold (rotr wl k)).isSome).length := by
      refine filter_count hz ?_
      intro j v e
      have := hT j v e
      generalize fold (rotr wl j) = fo at this
      cases this with
      | none => rfl
      | some h1 h2 => rfl
    have hln9 : ys9.size = ((List.range wl.length).filter fun k => (fold (rotr wl k)).isSome).length := by
      rw [← hfc, ← paired_len hP9, Array.length_toList]
    have hls9 : ys9.size ≤ 1000 := by
      rw [hln9]
      have := List.length_filter_le (fun k => (fold (rotr wl k)).isSome) (List.range wl.length)
      simp at this ⊢
      omega
    clear F8 N8
    k_steps
    unfold Stop
    refine src_list (h₀ := h₀) rfl F9 N9 (News.isList N9 (.tail _ (.tail _ (.tail _ (.head _))))) (by omega) (fun _ => true) LenG ?_ ?_ ?_
    · intro C v s₂ m₂ E' hv hn' hm hk
      exact wpAny_pure ⟨rfl, _, _, rfl, fun _ _ e => e⟩
    · intro C v s₂ m₂ E' hv hn' hm hk
      have kk : ∀ b o, h₀.get? b = some o → s₂.heap.get? b = some o := fun b o e => hk b o (F9.keep b o e)
      obtain ⟨j, hj⟩ := List.getElem?_of_mem hv
      obtain ⟨x, tx, rfl, hx⟩ := hTV.nth j v hj
      have hx3 : x.length ≤ 1000 := by
        have := (hw3 _ (List.mem_of_getElem? hx)).1
        rw [Array.length_toList] at this
        (show x.cps.size ≤ 1000)
        omega
      refine wpAny_mono (elt_len (X.keeps kk) (T.keeps kk) (by k_is) rfl rfl rfl rfl rfl (by decide) hn' hm hx3) ?_ fun _ _ e => e
      rintro r s₃ ⟨⟨u, rfl⟩, hk3⟩
      exact ⟨⟨x, tx, u, rfl, rfl⟩, hk3⟩
    intro D10 ys10 c10 h10 tk10 F10 N10 hne10 hP10
    rw [filt_true] at hP10
    have hI10 := lens_ints hTV hP10
    have hlc := law_count wl hl3 hl5 fun x hx => (hw3 x hx).1
    generalize (wl.map fun x => (1 : Int) - (x.length : Int)) = zl at hI10 hlc
    have hL10 : h10.IsList D10 ys10.toList.toArray := by
      rw [Array.toArray_toList]
      exact News.isList N10 (.head _)
    clear F9 N9 hne9 hne10 hfc hln9
    k_steps
    have hval : (((((List.range wl.length).filter fun k => (fold (rotr wl k)).isSome).length : Nat) : Int) == if zl.sum > 0 then zl.sum else 0) = true := by
      rw [hlc, beq_iff_eq]
      split <;> omega
    rw [hval]
    rename News h₀ L1 _ _ => NZ
    rename Fr h₀ L1 _ _ => FZ
    exact hret _ ps5 FZ.keep (NZ (755, tabO ps5) (by simp)).1 hp5 hg5 hos5
end
end
end
-- TT2
section
abbrev QV : Program := view PySem.Challenge.pw_op0211_01 keep
theorem t1 : ((recsOf QV).any fun d => d.name == Str.ofString "join") = true := by decide +kernel
theorem t3 (P : Params) : (K P).lookup 755 = none := by kernel_rfl
theorem t4 (P : Params) : nsIn (K P) mainGlobals (Str.ofString "join") = some (some (.ref 760)) := by kernel_rfl
theorem t5 (P : Params) : nsIn (K P) mainGlobals (Str.ofString "law") = some (some (.ref 811)) := by kernel_rfl
theorem t6 (P : Params) : (match (K P).lookup 759 with | some ⟨.type "code", _, .fields vs, _⟩ => vs[11]? | _ => none) = some (.ref 755) := by kernel_rfl
theorem t7 (P : Params) : (match (K P).lookup 760 with | some ⟨_, _, .func fd, _⟩ => fd.code | _ => .none) = .ref 759 := by kernel_rfl
theorem ne755 {h : Heap} {x : Addr} {o : Obj} {ps : Array Value} (e755 : h.get? 755 = some (tabO ps)) (e : h.get? x = some o) (hne : o.data ≠ .fields ps) : x ≠ 755 := by
  rintro rfl
  rw [e755] at e
  cases e
  exact hne rfl
theorem ns_hide {h : Heap} {a : Addr} {m : Str → Option Value} {ps : Array Value} (e755 : h.get? 755 = some (tabO ps)) (n : h.Ns a m) : (hideAll h [755]).Ns a m := by
  obtain ⟨o, es, ep, e, d, r⟩ := n
  have hne : a ≠ 755 := ne755 e755 e (by rw [d]; exact fun z => by cases z)
  exact ⟨o, es, ep, hideAll_get [755] e (by simpa using hne), d, r⟩
theorem tab755 {w : World} {h : Heap} {lo : List Str} {mean : ExcName → Option Value} {mg mb : Str → Option Value} (X : (K w.params).In h) (T : Top QV lo mean mg mb h) : h.get? 755 = some (tabO #[]) ∧ h.TableAt 759 755 #[] := by
  obtain ⟨d, hd, hn⟩ := List.any_eq_true.mp t1
  obtain ⟨a, o, fd, c, P', h1, h2, h3, h4, h5, h6⟩ := T.tab d hd
  have hn' : d.name = Str.ofString "join" := beq_iff_eq.mp hn
  rw [hn', mg_of X T.g (t4 w.params)] at h1
  cases h1
  have e7 := t7 w.params
  split at e7
  · rename_i c1 d1 fd1 sl1 hl
    have e := X _ _ hl
    rw [h2] at e
    cases e
    cases h3
    rw [h4] at e7
    cases e7
    have e6 := t6 w.params
    split at e6
    · rename_i d2 vs2 sl2 hl2
      have e := X _ _ hl2
      obtain ⟨⟨o3, vs3, e3, _, hd3, hv3⟩, ht⟩ := id h6
      rw [e] at e3
      cases e3
      cases hd3
      rw [hv3] at e6
      cases e6
      exact ⟨ht, h6⟩
    · cases e6
  · cases e7
theorem top_hidden {q : Program} {h : Heap} {lo : List Str} {mean : ExcName → Option Value} {mg mb : Str → Option Value} {ps : Array Value} (T : Top q lo mean mg mb h) (e755 : h.get? 755 = some (tabO ps)) :
    ∃ p' lo', Top p' lo' mean mg mb (hideAll h [755]) := by
  refine ⟨{ q with main := { q.main with body := [Stmt.Import [⟨"sys", none, default⟩] default] } }, lo ++ ((recsOf q).map (·.name) ++ ((litsOf q).map (·.1) ++ (clssOf q lo).map (·.name))), ns_hide e755 T.g, ns_hide e755 T.b, ?_, ?_, ?_, ?_, ?_, ?_, T.builtins, ?_, ?_, ?_⟩
  · obtain ⟨mc, h1, h2⟩ := T.nolimit
    exact ⟨mc, ns_hide e755 h1, h2⟩
  · obtain ⟨mc, h1, h2⟩ := T.nodigits
    exact ⟨mc, ns_hide e755 h1, h2⟩
  · intro d hd
    exact nomatch hd
  · intro o ho
    exact nomatch ho
  · intro x d hx
    exact nomatch hx
  · intro x h1 h2 _ _ _
    simp only [List.mem_append, not_or] at h2
    exact T.free x h1 h2.1 h2.2.1 h2.2.2.1 h2.2.2.2
  · intro d hd
    exact nomatch hd
  · obtain ⟨bm, ob, h1, h2, h3, h4, h5, h6⟩ := T.bmain
    exact ⟨bm, ob, h1, h2, hideAll_get [755] h3 (by simpa using ne755 e755 h3 (by rw [h6]; exact fun z => by cases z)), h4, h5, h6⟩
  · intro hi
    exact (Bool.false_ne_true (show false = true from hi)).elim
end
-- TT3
section
open Hd
noncomputable abbrev HK : Hook := kHook K Kas (fun _ => by kernel_rfl)
theorem list_hide {h : Heap} {l : Addr} {its : Array Value} {ps : Array Value} (e755 : h.get? 755 = some (tabO ps)) (hL : h.IsList l its) : (hideAll h [755]).IsList l its := by
  obtain ⟨o, ho, hc, n, hd⟩ := hL
  exact ⟨o, hideAll_get [755] ho (by simpa using ne755 e755 ho (by rw [hd]; exact fun z => by cases z)), hc, n, hd⟩
theorem post_true (ps qs : List WData) : PySem.Challenge.rw_op0211_01.row.toRowW.claim.post ps (.bool true) qs = true := by
  show (WShape.has [] (.bool true) .bool && WTm.holds [] (.eq .res (.lit (.bool true))) { args := ps, res := some (.bool true), after := qs }) = true
  first
    | rfl
    | decide
    | (simp [WShape.has, WShape.arms, WTm.holds, WTm.value, same, ofPy]; done)
theorem law_walk : WalkH QV loose (XL QV []) HK.says PySem.Challenge.rw_op0211_01.row.toRowW := by
  intro w s₀ s₁ mg mb G Y hg args vs as hpre hlay hrd hwl hlo
  have X := kIn_of Y
  have T := G.T
  obtain ⟨e755, hta⟩ := tab755 X T
  refine ⟨.ref 811, mg_of X T.g (t5 w.params), ?_⟩
  have hk0 : ∀ b o, (hideAll s₁.heap [755]).get? b = some o → s₁.heap.get? b = some o := fun b o e => of_hideAll [755] e
  have X0 : (K w.params).In (hideAll s₁.heap [755]) := by
    intro a o hl
    refine hideAll_get [755] (X a o hl) ?_
    intro hm
    rw [List.mem_singleton.mp hm, t3] at hl
    cases hl
  obtain ⟨p', lo', T0⟩ := top_hidden T e755
  have hn0 : (hideAll s₁.heap [755]).get? 755 = none := hideAll_none [755] (.head _)
  wrow_args hpre hlay hrd hwl hlo
  rename Heap.IsList _ _ _ => hL
  rename IntsAre _ _ => hI
  rename ¬ ((63 : Nat) : Int) < _ => hlen
  have hL0 := list_hide e755 hL
  refine wpN_call ?_
  refine law_spec hk0 (Nat.le_of_eq (hideAll_size _ _)) X0 T0 e755 hn0 (.inl rfl) (.of_eq hg) hL0 hI (by omega) ?_
  intro s' ps' hk h755' hp' hg' hos'
  have hx : Heap.ExtBut 755 s₁.heap s'.heap := fun b o hb e => hk b o (hideAll_get [755] e (by simpa using hb))
  have ht' : s'.heap.TableAt 759 755 (#[] ++ ps') := by
    obtain ⟨⟨o, vs, e, r⟩, _⟩ := hta
    refine ⟨⟨o, vs, hx _ _ (by decide) e, r⟩, ?_⟩
    rw [Array.empty_append]
    exact h755'
  exact ⟨.inl ⟨.bool true, .bool true, [], rfl, fun _ => rfl, .bool true, post_true _ _, fun _ => ⟨List.nodup_nil, fun a ha => nomatch ha⟩⟩, (OldK.refl _).step_table hta hta ht' hx (by decide), hos', hg'⟩
end
-- TT4
section
open Hd
theorem law_holds : PySem.Challenge.rw_op0211_01.Holds := by
  w_on
  refine holds_law law_said fun said => ?_
  refine holds_N (q := view PySem.Challenge.pw_op0211_01 keep) (loose := loose) (Xt := Xt) (XP := XL (view PySem.Challenge.pw_op0211_01 keep) []) (Yf := HK.obs) (Ya := HK.val) (YP := HK.says) (N := 10520) left (Hook.of HK) (Hook.keeps HK) (fun s e => xl_of s (Bool.and_eq_true_iff.mp e).1) XL.keeps (by rfl) (by rfl) (by rfl) (fun s e => recFacts_of (Bool.and_eq_true_iff.mp e).2) (by rfl) (by first | assumption | decide +kernel) (by decide +kernel) ⟨rfl, rfl, rfl, rfl, rfl, by decide +kernel⟩ ?hw ?hc
  case hw => w_witness2
  case hc => exact law_walk
end
end Mine
theorem PySem.Challenge.cw_op0211_01_holds : PySem.Challenge.rw_op0211_01.Holds :=
  Mine.law_holds
