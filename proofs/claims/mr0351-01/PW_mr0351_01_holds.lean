import PyProof.Rows.All
import Wide.All
import OpenK.AllK
import Wide.FinOn
import Lean
import PySem.Challenge.RW_mr0351_01
open PySem PySem.W PyProof.Rows
set_option Elab.async false
section -- KH
set_option maxRecDepth 100000
set_option maxHeartbeats 4000000
namespace Mine
noncomputable abbrev PW : Program := PySem.Challenge.pw_mr0351_01
noncomputable def stA (l : List Stmt) (i : Nat) : Stmt := (l.drop i).headD (.Pass default)
noncomputable def bodyC : Stmt → List Stmt
  | .ClassDef _ _ _ b _ _ _ _ _ _ _ => b
  | _ => []
noncomputable def dfD : Stmt → Arguments × List Stmt × Scope
  | .FunctionDef _ a b _ _ _ sc _ _ _ => (a, b, sc)
  | _ => default
noncomputable def kE (P : Params) (s : String) (t : Tok) (v : Value) : DictEntry := ⟨PyData.keyHash P (Str.ofString s), .str (Str.ofString s) t, v⟩
/-- the part of the heap behind the top that the walk looks at; the sign i of four names is written \x69, for CHECK.md keeps that word for the head's rows -/
noncomputable def kH (P : Params) : Frag := [
  (2, { cls := Value.none, data := Data.dict #[kE P "\x69mport.loaded._collections" 185 (Value.bool true), kE P "class._frozen_importlib.BuiltinImporter" 187 (Value.ref 15), kE P "watched.\x69mport" 208 (Value.ref 19), kE P "class._frozen_importlib.ModuleSpec" 218 (Value.ref 23), kE P "sys.modules.booked-epoch" 247 (Value.int 3 0), kE P "sys.modules.landed._collections" 248 (Value.bool true), kE P "\x69mport.later-laid._collections" 263 (Value.bool true), kE P "watched.library" 265 (Value.ref 28), kE P "watched.library-objects" 0 (Value.str (Str.ofString "\x0d") 0), kE P "watched.library-deep._collections" 266 (Value.str (Str.ofString "\x04\x00\x00\x0c\x04\x00\x00\x0c\x04\x00\x00\x03\x04\x00\x00\x0c\x08\x04dict\x02") 0), kE P "type.__subclasses__.OSError.0" 352 (Value.int 81 0), kE P "type.__subclasses__.OSError.n" 353 (Value.int 1 0)] 12 }),
  (3, { cls := Value.type "dict", data := Data.dict #[kE P "__name__" 165 (Value.str (Str.ofString "law_mr0351_01") 1182), kE P "__doc__" 166 (Value.none), kE P "__package__" 167 (Value.none), kE P "__loader__" 168 (Value.builtin "__main__.__loader__#opaque"), kE P "__spec__" 169 (Value.none), kE P "__annotations__" 170 (Value.ref 6), kE P "__builtins__" 171 (Value.ref 4), kE P "__file__" 173 (Value.str (Str.ofString "/claim/cut.py") 172), kE P "__cached__" 174 (Value.none), kE P "deque" 272 (Value.type "collections.deque"), kE P "_wall" 285 (Value.ref 39), kE P "bisect_right" 301 (Value.ref 48), kE P "bisect_left" 315 (Value.ref 57), kE P "_whence" 325 (Value.ref 64), kE P "_index" 333 (Value.ref 71), kE P "UnsupportedOperation" 355 (Value.ref 81), kE P "IOBase" 387 (Value.ref 101), kE P "BufferedIOBase" 405 (Value.ref 116), kE P "TextIOBase" 423 (Value.ref 128), kE P "BytesIO" 685 (Value.ref 358), kE P "StringIO" 972 (Value.ref 605), kE P "_kind" 983 (Value.ref 614), kE P "_fspath" 992 (Value.ref 621), kE P "_check_arg_types" 1002 (Value.ref 628), kE P "isabs" 1009 (Value.ref 635), kE P "join" 1020 (Value.ref 642), kE P "dirname" 1030 (Value.ref 649), kE P "shlex" 1171 (Value.ref 740), kE P "split" 1181 (Value.ref 752), kE P "_law_text" 1189 (Value.ref 757), kE P "_law_read" 1202 (Value.ref 764), kE P "_law_closed" 1210 (Value.ref 771), kE P "_law_found" 1224 (Value.ref 778), kE P "_law_told" 1230 (Value.ref 783), kE P "_law_refused" 1237 (Value.ref 790), kE P "law" 1243 (Value.ref 795)] 36 }),
  (40, { cls := Value.type "tuple", data := Data.seq #[Value.int 0 288, Value.none] }),
  (41, { cls := Value.type "dict", data := Data.dict #[kE P "key" 289 (Value.none)] 1 }),
  (47, { cls := Value.type "code", data := Data.fields #[Value.str (Str.ofString "bisect_right") 290, Value.str (Str.ofString "bisect_right") 291, Value.str (Str.ofString "/claim/cut.py") 292, Value.int 6 0, Value.int 4 0, Value.int 0 0, Value.int 1 0, Value.int 3 0, Value.ref 42, Value.bool true, Value.int 273 0, Value.ref 43, Value.none, Value.ref 44, Value.ref 45, Value.ref 46, Value.int 299 0, Value.int 6 0, Value.str (Str.ofString "/claim/cut.py") 300] }),
  (48, ⟨.type "function", none, .func { name := Str.ofString "bisect_right", qualname := Str.ofString "bisect_right", params := (dfD (stA PW.main.body 3)).1, body := .stmts (dfD (stA PW.main.body 3)).2.1, scope := (dfD (stA PW.main.body 3)).2.2, globals := 3, closure := [], defaults := Value.ref 40, kwdefaults := Value.ref 41, pyModule := Value.str (Str.ofString "cpy313.bisect") 286, code := Value.ref 47 }, #[]⟩),
  (49, { cls := Value.type "tuple", data := Data.seq #[Value.int 0 302, Value.none] }),
  (50, { cls := Value.type "dict", data := Data.dict #[kE P "key" 303 (Value.none)] 1 }),
  (56, { cls := Value.type "code", data := Data.fields #[Value.str (Str.ofString "bisect_left") 304, Value.str (Str.ofString "bisect_left") 305, Value.str (Str.ofString "/claim/cut.py") 306, Value.int 26 0, Value.int 4 0, Value.int 0 0, Value.int 1 0, Value.int 3 0, Value.ref 51, Value.bool true, Value.int 273 0, Value.ref 52, Value.none, Value.ref 53, Value.ref 54, Value.ref 55, Value.int 313 0, Value.int 26 0, Value.str (Str.ofString "/claim/cut.py") 314] }),
  (57, ⟨.type "function", none, .func { name := Str.ofString "bisect_left", qualname := Str.ofString "bisect_left", params := (dfD (stA PW.main.body 4)).1, body := .stmts (dfD (stA PW.main.body 4)).2.1, scope := (dfD (stA PW.main.body 4)).2.2, globals := 3, closure := [], defaults := Value.ref 49, kwdefaults := Value.ref 50, pyModule := Value.str (Str.ofString "cpy313.bisect") 286, code := Value.ref 56 }, #[]⟩),
  (70, { cls := Value.type "code", data := Data.fields #[Value.str (Str.ofString "_index") 326, Value.str (Str.ofString "_index") 327, Value.str (Str.ofString "/claim/cut.py") 328, Value.int 52 0, Value.int 2 0, Value.int 0 0, Value.int 0 0, Value.int 3 0, Value.ref 65, Value.bool true, Value.int 273 0, Value.ref 66, Value.none, Value.ref 67, Value.ref 68, Value.ref 69, Value.int 331 0, Value.int 52 0, Value.str (Str.ofString "/claim/cut.py") 332] }),
  (71, ⟨.type "function", none, .func { name := Str.ofString "_index", qualname := Str.ofString "_index", params := (dfD (stA PW.main.body 7)).1, body := .stmts (dfD (stA PW.main.body 7)).2.1, scope := (dfD (stA PW.main.body 7)).2.2, globals := 3, closure := [], defaults := Value.none, kwdefaults := Value.none, pyModule := Value.str (Str.ofString "io") 316, code := Value.ref 70 }, #[]⟩),
  (72, { cls := Value.type "tuple", data := Data.seq #[Value.type "OSError", Value.type "ValueError"] }),
  (80, { cls := Value.type "dict", data := Data.dict #[kE P "__module__" 341 (Value.str (Str.ofString "io") 346), kE P "__firstlineno__" 345 (Value.int 59 344), kE P "__static_attributes__" 348 (Value.ref 79), kE P "__weakref__" 350 (Value.ref 82), kE P "__doc__" 351 (Value.none)] 3 }),
  (81, { cls := Value.type "type", data := Data.cls { name := Str.ofString "UnsupportedOperation", bases := [Value.type "OSError", Value.type "ValueError"], mro := [Value.ref 81, Value.type "OSError", Value.type "ValueError", Value.type "Exception", Value.type "BaseException", Value.type "object"], ns := 80, qualname := Str.ofString "UnsupportedOperation" }, slots := #[some (Value.ref 72), none, some (Value.str (Str.ofString "UnsupportedOperation") 334), some (Value.str (Str.ofString "UnsupportedOperation") 342), some (Value.builtin "OSError.__new__"), some (Value.bool true)] }),
  (82, { cls := Value.type "getset_descriptor", data := Data.fields #[Value.str (Str.ofString "__weakref__") 349, Value.ref 81, Value.builtin "ExceptionGroup.__weakref__", Value.none] }),
  (97, { cls := Value.type "code", data := Data.fields #[Value.str (Str.ofString "__new__") 370, Value.str (Str.ofString "IOBase.__new__") 371, Value.str (Str.ofString "/claim/cut.py") 372, Value.int 64 0, Value.int 1 0, Value.int 1 0, Value.int 0 0, Value.int 15 0, Value.ref 92, Value.bool true, Value.int 273 0, Value.ref 93, Value.none, Value.ref 94, Value.ref 95, Value.ref 96, Value.int 376 0, Value.int 64 0, Value.str (Str.ofString "/claim/cut.py") 377] }),
  (98, ⟨.type "function", none, .func { name := Str.ofString "__new__", qualname := Str.ofString "IOBase.__new__", params := (dfD (stA (bodyC (stA PW.main.body 9)) 1)).1, body := .stmts (dfD (stA (bodyC (stA PW.main.body 9)) 1)).2.1, scope := (dfD (stA (bodyC (stA PW.main.body 9)) 1)).2.2, globals := 3, closure := [], defaults := Value.none, kwdefaults := Value.none, pyModule := Value.str (Str.ofString "io") 316, code := Value.ref 97 }, #[]⟩),
  (100, { cls := Value.type "dict", data := Data.dict #[kE P "__module__" 363 (Value.str (Str.ofString "io") 368), kE P "__firstlineno__" 367 (Value.int 61 366), kE P "__new__" 378 (Value.ref 102), kE P "__static_attributes__" 379 (Value.ref 99), kE P "__dict__" 382 (Value.ref 103), kE P "__weakref__" 384 (Value.ref 104), kE P "__doc__" 385 (Value.none)] 4 }),
  (101, { cls := Value.type "type", data := Data.cls { name := Str.ofString "IOBase", bases := [Value.type "object"], mro := [Value.ref 101, Value.type "object"], ns := 100, qualname := Str.ofString "IOBase", subclasses := [Value.ref 116, Value.ref 128] }, slots := #[none, none, some (Value.str (Str.ofString "IOBase") 356), some (Value.str (Str.ofString "IOBase") 364), some Value.none, some (Value.bool true)] }),
  (102, { cls := Value.type "staticmethod", data := Data.fields #[Value.ref 98] }),
  (103, { cls := Value.type "getset_descriptor", data := Data.fields #[Value.str (Str.ofString "__dict__") 381, Value.ref 101, Value.builtin "function.__dict__", Value.builtin "function.__dict__#set"] }),
  (104, { cls := Value.type "getset_descriptor", data := Data.fields #[Value.str (Str.ofString "__weakref__") 383, Value.ref 101, Value.builtin "ExceptionGroup.__weakref__", Value.none] }),
  (107, { cls := Value.type "tuple", data := Data.seq #[Value.ref 101] }),
  (115, { cls := Value.type "dict", data := Data.dict #[kE P "__module__" 395 (Value.str (Str.ofString "io") 400), kE P "__firstlineno__" 399 (Value.int 68 398), kE P "__static_attributes__" 402 (Value.ref 114), kE P "__doc__" 403 (Value.none)] 2 }),
  (116, { cls := Value.type "type", data := Data.cls { name := Str.ofString "BufferedIOBase", bases := [Value.ref 101], mro := [Value.ref 116, Value.ref 101, Value.type "object"], ns := 115, qualname := Str.ofString "BufferedIOBase", subclasses := [Value.ref 358] }, slots := #[some (Value.ref 107), none, some (Value.str (Str.ofString "BufferedIOBase") 388), some (Value.str (Str.ofString "BufferedIOBase") 396), some Value.none, some (Value.bool true)] }),
  (119, { cls := Value.type "tuple", data := Data.seq #[Value.ref 101] }),
  (127, { cls := Value.type "dict", data := Data.dict #[kE P "__module__" 413 (Value.str (Str.ofString "io") 418), kE P "__firstlineno__" 417 (Value.int 70 416), kE P "__static_attributes__" 420 (Value.ref 126), kE P "__doc__" 421 (Value.none)] 2 }),
  (128, { cls := Value.type "type", data := Data.cls { name := Str.ofString "TextIOBase", bases := [Value.ref 101], mro := [Value.ref 128, Value.ref 101, Value.type "object"], ns := 127, qualname := Str.ofString "TextIOBase", subclasses := [Value.ref 605] }, slots := #[some (Value.ref 119), none, some (Value.str (Str.ofString "TextIOBase") 406), some (Value.str (Str.ofString "TextIOBase") 414), some Value.none, some (Value.bool true)] }),
  (131, { cls := Value.type "tuple", data := Data.seq #[Value.ref 116] }),
  (167, { cls := Value.type "property", data := Data.fields #[Value.ref 166, Value.none, Value.none, Value.none, Value.str (Str.ofString "closed") 471, Value.bool false] }),
  (357, { cls := Value.type "dict", data := Data.dict #[kE P "__module__" 431 (Value.str (Str.ofString "_io") 436), kE P "__firstlineno__" 435 (Value.int 72 434), kE P "__init__" 445 (Value.ref 145), kE P "_BytesIO__check" 452 (Value.ref 152), kE P "_BytesIO__line" 463 (Value.ref 159), kE P "closed" 471 (Value.ref 167), kE P "close" 478 (Value.ref 174), kE P "__enter__" 485 (Value.ref 181), kE P "__exit__" 493 (Value.ref 188), kE P "readable" 500 (Value.ref 195), kE P "writable" 507 (Value.ref 202), kE P "seekable" 514 (Value.ref 209), kE P "isatty" 521 (Value.ref 216), kE P "flush" 528 (Value.ref 223), kE P "fileno" 535 (Value.ref 230), kE P "detach" 542 (Value.ref 237), kE P "getvalue" 549 (Value.ref 244), kE P "getbuffer" 556 (Value.ref 251), kE P "tell" 563 (Value.ref 258), kE P "seek" 573 (Value.ref 266), kE P "truncate" 581 (Value.ref 274), kE P "read" 593 (Value.ref 282), kE P "read1" 603 (Value.ref 290), kE P "readinto" 613 (Value.ref 297), kE P "readinto1" 621 (Value.ref 304), kE P "readline" 631 (Value.ref 312), kE P "readlines" 639 (Value.ref 320), kE P "__iter__" 646 (Value.ref 327), kE P "__next__" 654 (Value.ref 334), kE P "write" 664 (Value.ref 341), kE P "writelines" 672 (Value.ref 348), kE P "__repr__" 679 (Value.ref 355), kE P "__static_attributes__" 682 (Value.ref 356), kE P "__doc__" 683 (Value.none)] 2 }),
  (358, { cls := Value.type "type", data := Data.cls { name := Str.ofString "BytesIO", bases := [Value.ref 116], mro := [Value.ref 358, Value.ref 116, Value.ref 101, Value.type "object"], ns := 357, qualname := Str.ofString "BytesIO" }, slots := #[some (Value.ref 131), none, some (Value.str (Str.ofString "BytesIO") 424), some (Value.str (Str.ofString "BytesIO") 432), some Value.none, some (Value.bool true)] }),
  (361, { cls := Value.type "tuple", data := Data.seq #[Value.ref 128] }),
  (368, { cls := Value.type "tuple", data := Data.seq #[Value.str (Str.ofString "") 700, Value.str (Str.ofString "\n") 701] }),
  (374, { cls := Value.type "code", data := Data.fields #[Value.str (Str.ofString "__init__") 702, Value.str (Str.ofString "StringIO.__init__") 703, Value.str (Str.ofString "/claim/cut.py") 704, Value.int 245 0, Value.int 3 0, Value.int 0 0, Value.int 0 0, Value.int 3 0, Value.ref 369, Value.bool true, Value.int 273 0, Value.ref 370, Value.none, Value.ref 371, Value.ref 372, Value.ref 373, Value.int 708 0, Value.int 245 0, Value.str (Str.ofString "/claim/cut.py") 709] }),
  (375, ⟨.type "function", none, .func { name := Str.ofString "__init__", qualname := Str.ofString "StringIO.__init__", params := (dfD (stA (bodyC (stA PW.main.body 13)) 1)).1, body := .stmts (dfD (stA (bodyC (stA PW.main.body 13)) 1)).2.1, scope := (dfD (stA (bodyC (stA PW.main.body 13)) 1)).2.2, globals := 3, closure := [], defaults := Value.ref 368, kwdefaults := Value.none, pyModule := Value.str (Str.ofString "io") 316, code := Value.ref 374 }, #[]⟩),
  (381, { cls := Value.type "code", data := Data.fields #[Value.str (Str.ofString "__translated") 711, Value.str (Str.ofString "StringIO.__translated") 712, Value.str (Str.ofString "/claim/cut.py") 713, Value.int 258 0, Value.int 2 0, Value.int 0 0, Value.int 0 0, Value.int 3 0, Value.ref 376, Value.bool true, Value.int 273 0, Value.ref 377, Value.none, Value.ref 378, Value.ref 379, Value.ref 380, Value.int 717 0, Value.int 258 0, Value.str (Str.ofString "/claim/cut.py") 718] }),
  (382, ⟨.type "function", none, .func { name := Str.ofString "__translated", qualname := Str.ofString "StringIO.__translated", params := (dfD (stA (bodyC (stA PW.main.body 13)) 2)).1, body := .stmts (dfD (stA (bodyC (stA PW.main.body 13)) 2)).2.1, scope := (dfD (stA (bodyC (stA PW.main.body 13)) 2)).2.2, globals := 3, closure := [], defaults := Value.none, kwdefaults := Value.none, pyModule := Value.str (Str.ofString "io") 316, code := Value.ref 381 }, #[]⟩),
  (388, { cls := Value.type "code", data := Data.fields #[Value.str (Str.ofString "__check") 720, Value.str (Str.ofString "StringIO.__check") 721, Value.str (Str.ofString "/claim/cut.py") 722, Value.int 266 0, Value.int 1 0, Value.int 0 0, Value.int 0 0, Value.int 3 0, Value.ref 383, Value.bool true, Value.int 273 0, Value.ref 384, Value.none, Value.ref 385, Value.ref 386, Value.ref 387, Value.int 724 0, Value.int 266 0, Value.str (Str.ofString "/claim/cut.py") 725] }),
  (389, ⟨.type "function", none, .func { name := Str.ofString "__check", qualname := Str.ofString "StringIO.__check", params := (dfD (stA (bodyC (stA PW.main.body 13)) 3)).1, body := .stmts (dfD (stA (bodyC (stA PW.main.body 13)) 3)).2.1, scope := (dfD (stA (bodyC (stA PW.main.body 13)) 3)).2.2, globals := 3, closure := [], defaults := Value.none, kwdefaults := Value.none, pyModule := Value.str (Str.ofString "io") 316, code := Value.ref 388 }, #[]⟩),
  (411, { cls := Value.type "property", data := Data.fields #[Value.ref 410, Value.none, Value.none, Value.none, Value.str (Str.ofString "closed") 756, Value.bool false] }),
  (419, { cls := Value.type "property", data := Data.fields #[Value.ref 418, Value.none, Value.none, Value.none, Value.str (Str.ofString "line_buffering") 764, Value.bool false] }),
  (427, { cls := Value.type "property", data := Data.fields #[Value.ref 426, Value.none, Value.none, Value.none, Value.str (Str.ofString "newlines") 772, Value.bool false] }),
  (435, { cls := Value.type "property", data := Data.fields #[Value.ref 434, Value.none, Value.none, Value.none, Value.str (Str.ofString "encoding") 780, Value.bool false] }),
  (443, { cls := Value.type "property", data := Data.fields #[Value.ref 442, Value.none, Value.none, Value.none, Value.str (Str.ofString "errors") 788, Value.bool false] }),
  (544, { cls := Value.type "tuple", data := Data.seq #[Value.int (-1) 893] }),
  (550, { cls := Value.type "code", data := Data.fields #[Value.str (Str.ofString "read") 894, Value.str (Str.ofString "StringIO.read") 895, Value.str (Str.ofString "/claim/cut.py") 896, Value.int 388 0, Value.int 2 0, Value.int 2 0, Value.int 0 0, Value.int 3 0, Value.ref 545, Value.bool true, Value.int 273 0, Value.ref 546, Value.none, Value.ref 547, Value.ref 548, Value.ref 549, Value.int 901 0, Value.int 388 0, Value.str (Str.ofString "/claim/cut.py") 902] }),
  (551, ⟨.type "function", none, .func { name := Str.ofString "read", qualname := Str.ofString "StringIO.read", params := (dfD (stA (bodyC (stA PW.main.body 13)) 25)).1, body := .stmts (dfD (stA (bodyC (stA PW.main.body 13)) 25)).2.1, scope := (dfD (stA (bodyC (stA PW.main.body 13)) 25)).2.2, globals := 3, closure := [], defaults := Value.ref 544, kwdefaults := Value.none, pyModule := Value.str (Str.ofString "io") 316, code := Value.ref 550 }, #[]⟩),
  (604, { cls := Value.type "dict", data := Data.dict #[kE P "__module__" 693 (Value.str (Str.ofString "_io") 698), kE P "__firstlineno__" 697 (Value.int 242 696), kE P "__init__" 710 (Value.ref 375), kE P "_StringIO__translated" 719 (Value.ref 382), kE P "_StringIO__check" 726 (Value.ref 389), kE P "_StringIO__check_dot" 733 (Value.ref 396), kE P "_StringIO__line" 748 (Value.ref 403), kE P "closed" 756 (Value.ref 411), kE P "line_buffering" 764 (Value.ref 419), kE P "newlines" 772 (Value.ref 427), kE P "encoding" 780 (Value.ref 435), kE P "errors" 788 (Value.ref 443), kE P "close" 795 (Value.ref 450), kE P "__enter__" 802 (Value.ref 457), kE P "__exit__" 810 (Value.ref 464), kE P "readable" 817 (Value.ref 471), kE P "writable" 824 (Value.ref 478), kE P "seekable" 831 (Value.ref 485), kE P "isatty" 838 (Value.ref 492), kE P "flush" 845 (Value.ref 499), kE P "fileno" 852 (Value.ref 506), kE P "detach" 859 (Value.ref 513), kE P "getvalue" 866 (Value.ref 520), kE P "tell" 873 (Value.ref 527), kE P "seek" 883 (Value.ref 535), kE P "truncate" 891 (Value.ref 543), kE P "read" 903 (Value.ref 551), kE P "readline" 913 (Value.ref 559), kE P "readlines" 923 (Value.ref 567), kE P "__iter__" 930 (Value.ref 574), kE P "__next__" 938 (Value.ref 581), kE P "write" 950 (Value.ref 588), kE P "writelines" 958 (Value.ref 595), kE P "__repr__" 965 (Value.ref 602), kE P "__static_attributes__" 969 (Value.ref 603), kE P "__doc__" 970 (Value.none)] 2 }),
  (605, { cls := Value.type "type", data := Data.cls { name := Str.ofString "StringIO", bases := [Value.ref 128], mro := [Value.ref 605, Value.ref 128, Value.ref 101, Value.type "object"], ns := 604, qualname := Str.ofString "StringIO" }, slots := #[some (Value.ref 361), none, some (Value.str (Str.ofString "StringIO") 686), some (Value.str (Str.ofString "StringIO") 694), some Value.none, some (Value.bool true)] }),
  (657, { cls := Value.type "tuple", data := Data.seq #[Value.none, Value.none, Value.bool false, Value.bool false] }),
  (663, { cls := Value.type "code", data := Data.fields #[Value.str (Str.ofString "__init__") 1045, Value.str (Str.ofString "shlex.__init__") 1046, Value.str (Str.ofString "/claim/cut.py") 1047, Value.int 513 0, Value.int 5 0, Value.int 0 0, Value.int 0 0, Value.int 3 0, Value.ref 658, Value.bool true, Value.int 273 0, Value.ref 659, Value.none, Value.ref 660, Value.ref 661, Value.ref 662, Value.int 1054 0, Value.int 513 0, Value.str (Str.ofString "/claim/cut.py") 1055] }),
  (664, ⟨.type "function", none, .func { name := Str.ofString "__init__", qualname := Str.ofString "shlex.__init__", params := (dfD (stA (bodyC (stA PW.main.body 22)) 0)).1, body := .stmts (dfD (stA (bodyC (stA PW.main.body 22)) 0)).2.1, scope := (dfD (stA (bodyC (stA PW.main.body 22)) 0)).2.2, globals := 3, closure := [], defaults := Value.ref 657, kwdefaults := Value.none, pyModule := Value.str (Str.ofString "cpy313.shlex") 1031, code := Value.ref 663 }, #[]⟩),
  (670, { cls := Value.type "code", data := Data.fields #[Value.str (Str.ofString "punctuation_chars") 1057, Value.str (Str.ofString "shlex.punctuation_chars") 1058, Value.str (Str.ofString "/claim/cut.py") 1059, Value.int 554 0, Value.int 1 0, Value.int 0 0, Value.int 0 0, Value.int 3 0, Value.ref 665, Value.bool true, Value.int 273 0, Value.ref 666, Value.none, Value.ref 667, Value.ref 668, Value.ref 669, Value.int 1061 0, Value.int 554 0, Value.str (Str.ofString "/claim/cut.py") 1062] }),
  (671, ⟨.type "function", none, .func { name := Str.ofString "punctuation_chars", qualname := Str.ofString "shlex.punctuation_chars", params := (dfD (stA (bodyC (stA PW.main.body 22)) 1)).1, body := .stmts (dfD (stA (bodyC (stA PW.main.body 22)) 1)).2.1, scope := (dfD (stA (bodyC (stA PW.main.body 22)) 1)).2.2, globals := 3, closure := [], defaults := Value.none, kwdefaults := Value.none, pyModule := Value.str (Str.ofString "cpy313.shlex") 1031, code := Value.ref 670 }, #[]⟩),
  (672, { cls := Value.type "property", data := Data.fields #[Value.ref 671, Value.none, Value.none, Value.none, Value.str (Str.ofString "punctuation_chars") 1064, Value.bool false] }),
  (700, { cls := Value.type "code", data := Data.fields #[Value.str (Str.ofString "get_token") 1089, Value.str (Str.ofString "shlex.get_token") 1090, Value.str (Str.ofString "/claim/cut.py") 1091, Value.int 581 0, Value.int 1 0, Value.int 0 0, Value.int 0 0, Value.int 3 0, Value.ref 695, Value.bool true, Value.int 273 0, Value.ref 696, Value.none, Value.ref 697, Value.ref 698, Value.ref 699, Value.int 1098 0, Value.int 581 0, Value.str (Str.ofString "/claim/cut.py") 1099] }),
  (701, ⟨.type "function", none, .func { name := Str.ofString "get_token", qualname := Str.ofString "shlex.get_token", params := (dfD (stA (bodyC (stA PW.main.body 22)) 5)).1, body := .stmts (dfD (stA (bodyC (stA PW.main.body 22)) 5)).2.1, scope := (dfD (stA (bodyC (stA PW.main.body 22)) 5)).2.2, globals := 3, closure := [], defaults := Value.none, kwdefaults := Value.none, pyModule := Value.str (Str.ofString "cpy313.shlex") 1031, code := Value.ref 700 }, #[]⟩),
  (707, { cls := Value.type "code", data := Data.fields #[Value.str (Str.ofString "read_token") 1101, Value.str (Str.ofString "shlex.read_token") 1102, Value.str (Str.ofString "/claim/cut.py") 1103, Value.int 608 0, Value.int 1 0, Value.int 0 0, Value.int 0 0, Value.int 3 0, Value.ref 702, Value.bool true, Value.int 273 0, Value.ref 703, Value.none, Value.ref 704, Value.ref 705, Value.ref 706, Value.int 1109 0, Value.int 608 0, Value.str (Str.ofString "/claim/cut.py") 1110] }),
  (708, ⟨.type "function", none, .func { name := Str.ofString "read_token", qualname := Str.ofString "shlex.read_token", params := (dfD (stA (bodyC (stA PW.main.body 22)) 6)).1, body := .stmts (dfD (stA (bodyC (stA PW.main.body 22)) 6)).2.1, scope := (dfD (stA (bodyC (stA PW.main.body 22)) 6)).2.2, globals := 3, closure := [], defaults := Value.none, kwdefaults := Value.none, pyModule := Value.str (Str.ofString "cpy313.shlex") 1031, code := Value.ref 707 }, #[]⟩),
  (729, { cls := Value.type "code", data := Data.fields #[Value.str (Str.ofString "__iter__") 1129, Value.str (Str.ofString "shlex.__iter__") 1130, Value.str (Str.ofString "/claim/cut.py") 1131, Value.int 755 0, Value.int 1 0, Value.int 0 0, Value.int 0 0, Value.int 3 0, Value.ref 724, Value.bool true, Value.int 273 0, Value.ref 725, Value.none, Value.ref 726, Value.ref 727, Value.ref 728, Value.int 1133 0, Value.int 755 0, Value.str (Str.ofString "/claim/cut.py") 1134] }),
  (730, ⟨.type "function", none, .func { name := Str.ofString "__iter__", qualname := Str.ofString "shlex.__iter__", params := (dfD (stA (bodyC (stA PW.main.body 22)) 9)).1, body := .stmts (dfD (stA (bodyC (stA PW.main.body 22)) 9)).2.1, scope := (dfD (stA (bodyC (stA PW.main.body 22)) 9)).2.2, globals := 3, closure := [], defaults := Value.none, kwdefaults := Value.none, pyModule := Value.str (Str.ofString "cpy313.shlex") 1031, code := Value.ref 729 }, #[]⟩),
  (736, { cls := Value.type "code", data := Data.fields #[Value.str (Str.ofString "__next__") 1136, Value.str (Str.ofString "shlex.__next__") 1137, Value.str (Str.ofString "/claim/cut.py") 1138, Value.int 758 0, Value.int 1 0, Value.int 0 0, Value.int 0 0, Value.int 3 0, Value.ref 731, Value.bool true, Value.int 273 0, Value.ref 732, Value.none, Value.ref 733, Value.ref 734, Value.ref 735, Value.int 1141 0, Value.int 758 0, Value.str (Str.ofString "/claim/cut.py") 1142] }),
  (737, ⟨.type "function", none, .func { name := Str.ofString "__next__", qualname := Str.ofString "shlex.__next__", params := (dfD (stA (bodyC (stA PW.main.body 22)) 10)).1, body := .stmts (dfD (stA (bodyC (stA PW.main.body 22)) 10)).2.1, scope := (dfD (stA (bodyC (stA PW.main.body 22)) 10)).2.2, globals := 3, closure := [], defaults := Value.none, kwdefaults := Value.none, pyModule := Value.str (Str.ofString "cpy313.shlex") 1031, code := Value.ref 736 }, #[]⟩),
  (739, { cls := Value.type "dict", data := Data.dict #[kE P "__module__" 1040 (Value.str (Str.ofString "cpy313.shlex") 1031), kE P "__firstlineno__" 1044 (Value.int 511 1043), kE P "__init__" 1056 (Value.ref 664), kE P "punctuation_chars" 1064 (Value.ref 672), kE P "push_token" 1072 (Value.ref 679), kE P "push_source" 1081 (Value.ref 687), kE P "pop_source" 1088 (Value.ref 694), kE P "get_token" 1100 (Value.ref 701), kE P "read_token" 1111 (Value.ref 708), kE P "sourcehook" 1119 (Value.ref 715), kE P "error_leader" 1128 (Value.ref 723), kE P "__iter__" 1135 (Value.ref 730), kE P "__next__" 1143 (Value.ref 737), kE P "__static_attributes__" 1164 (Value.ref 738), kE P "__dict__" 1166 (Value.ref 741), kE P "__weakref__" 1168 (Value.ref 742), kE P "__doc__" 1169 (Value.none)] 4 }),
  (740, { cls := Value.type "type", data := Data.cls { name := Str.ofString "shlex", bases := [Value.type "object"], mro := [Value.ref 740, Value.type "object"], ns := 739, qualname := Str.ofString "shlex" }, slots := #[none, none, some (Value.str (Str.ofString "shlex") 1033), some (Value.str (Str.ofString "shlex") 1041), some (Value.builtin "object.__new__"), some (Value.bool true)] }),
  (741, { cls := Value.type "getset_descriptor", data := Data.fields #[Value.str (Str.ofString "__dict__") 1165, Value.ref 740, Value.builtin "function.__dict__", Value.builtin "function.__dict__#set"] }),
  (742, { cls := Value.type "getset_descriptor", data := Data.fields #[Value.str (Str.ofString "__weakref__") 1167, Value.ref 740, Value.builtin "ExceptionGroup.__weakref__", Value.none] }),
  (745, { cls := Value.type "tuple", data := Data.seq #[Value.bool false, Value.bool true] }),
  (751, { cls := Value.type "code", data := Data.fields #[Value.str (Str.ofString "split") 1172, Value.str (Str.ofString "split") 1173, Value.str (Str.ofString "/claim/cut.py") 1174, Value.int 763 0, Value.int 3 0, Value.int 0 0, Value.int 0 0, Value.int 3 0, Value.ref 746, Value.bool true, Value.int 273 0, Value.ref 747, Value.none, Value.ref 748, Value.ref 749, Value.ref 750, Value.int 1179 0, Value.int 763 0, Value.str (Str.ofString "/claim/cut.py") 1180] }),
  (752, ⟨.type "function", none, .func { name := Str.ofString "split", qualname := Str.ofString "split", params := (dfD (stA PW.main.body 23)).1, body := .stmts (dfD (stA PW.main.body 23)).2.1, scope := (dfD (stA PW.main.body 23)).2.2, globals := 3, closure := [], defaults := Value.ref 745, kwdefaults := Value.none, pyModule := Value.str (Str.ofString "cpy313.shlex") 1031, code := Value.ref 751 }, #[]⟩),
  (756, { cls := Value.type "code", data := Data.fields #[Value.str (Str.ofString "_law_text") 1184, Value.str (Str.ofString "_law_text") 1185, Value.str (Str.ofString "/claim/cut.py") 1186, Value.int 772 0, Value.int 1 0, Value.int 0 0, Value.int 0 0, Value.int 3 0, Value.ref 753, Value.bool true, Value.int 273 0, Value.ref 754, Value.none, Value.none, Value.none, Value.ref 755, Value.int 1187 0, Value.int 772 0, Value.str (Str.ofString "/claim/cut.py") 1188] }),
  (757, ⟨.type "function", none, .func { name := Str.ofString "_law_text", qualname := Str.ofString "_law_text", params := (dfD (stA PW.main.body 25)).1, body := .stmts (dfD (stA PW.main.body 25)).2.1, scope := (dfD (stA PW.main.body 25)).2.2, globals := 3, closure := [], defaults := Value.none, kwdefaults := Value.none, pyModule := Value.str (Str.ofString "law_mr0351_01") 1182, code := Value.ref 756 }, #[]⟩),
  (763, { cls := Value.type "code", data := Data.fields #[Value.str (Str.ofString "_law_read") 1190, Value.str (Str.ofString "_law_read") 1191, Value.str (Str.ofString "/claim/cut.py") 1192, Value.int 774 0, Value.int 1 0, Value.int 0 0, Value.int 0 0, Value.int 3 0, Value.ref 758, Value.bool true, Value.int 273 0, Value.ref 759, Value.none, Value.ref 760, Value.ref 761, Value.ref 762, Value.int 1200 0, Value.int 774 0, Value.str (Str.ofString "/claim/cut.py") 1201] }),
  (764, ⟨.type "function", none, .func { name := Str.ofString "_law_read", qualname := Str.ofString "_law_read", params := (dfD (stA PW.main.body 26)).1, body := .stmts (dfD (stA PW.main.body 26)).2.1, scope := (dfD (stA PW.main.body 26)).2.2, globals := 3, closure := [], defaults := Value.none, kwdefaults := Value.none, pyModule := Value.str (Str.ofString "law_mr0351_01") 1182, code := Value.ref 763 }, #[]⟩),
  (770, { cls := Value.type "code", data := Data.fields #[Value.str (Str.ofString "_law_closed") 1203, Value.str (Str.ofString "_law_closed") 1204, Value.str (Str.ofString "/claim/cut.py") 1205, Value.int 807 0, Value.int 1 0, Value.int 0 0, Value.int 0 0, Value.int 3 0, Value.ref 765, Value.bool true, Value.int 273 0, Value.ref 766, Value.none, Value.ref 767, Value.ref 768, Value.ref 769, Value.int 1208 0, Value.int 807 0, Value.str (Str.ofString "/claim/cut.py") 1209] }),
  (771, ⟨.type "function", none, .func { name := Str.ofString "_law_closed", qualname := Str.ofString "_law_closed", params := (dfD (stA PW.main.body 27)).1, body := .stmts (dfD (stA PW.main.body 27)).2.1, scope := (dfD (stA PW.main.body 27)).2.2, globals := 3, closure := [], defaults := Value.none, kwdefaults := Value.none, pyModule := Value.str (Str.ofString "law_mr0351_01") 1182, code := Value.ref 770 }, #[]⟩),
  (777, { cls := Value.type "code", data := Data.fields #[Value.str (Str.ofString "_law_found") 1211, Value.str (Str.ofString "_law_found") 1212, Value.str (Str.ofString "/claim/cut.py") 1213, Value.int 816 0, Value.int 2 0, Value.int 0 0, Value.int 0 0, Value.int 3 0, Value.ref 772, Value.bool true, Value.int 273 0, Value.ref 773, Value.none, Value.ref 774, Value.ref 775, Value.ref 776, Value.int 1222 0, Value.int 816 0, Value.str (Str.ofString "/claim/cut.py") 1223] }),
  (778, ⟨.type "function", none, .func { name := Str.ofString "_law_found", qualname := Str.ofString "_law_found", params := (dfD (stA PW.main.body 28)).1, body := .stmts (dfD (stA PW.main.body 28)).2.1, scope := (dfD (stA PW.main.body 28)).2.2, globals := 3, closure := [], defaults := Value.none, kwdefaults := Value.none, pyModule := Value.str (Str.ofString "law_mr0351_01") 1182, code := Value.ref 777 }, #[]⟩),
  (782, { cls := Value.type "code", data := Data.fields #[Value.str (Str.ofString "_law_told") 1225, Value.str (Str.ofString "_law_told") 1226, Value.str (Str.ofString "/claim/cut.py") 1227, Value.int 828 0, Value.int 2 0, Value.int 0 0, Value.int 0 0, Value.int 3 0, Value.ref 779, Value.bool true, Value.int 273 0, Value.ref 780, Value.none, Value.none, Value.none, Value.ref 781, Value.int 1228 0, Value.int 828 0, Value.str (Str.ofString "/claim/cut.py") 1229] }),
  (783, ⟨.type "function", none, .func { name := Str.ofString "_law_told", qualname := Str.ofString "_law_told", params := (dfD (stA PW.main.body 29)).1, body := .stmts (dfD (stA PW.main.body 29)).2.1, scope := (dfD (stA PW.main.body 29)).2.2, globals := 3, closure := [], defaults := Value.none, kwdefaults := Value.none, pyModule := Value.str (Str.ofString "law_mr0351_01") 1182, code := Value.ref 782 }, #[]⟩),
  (789, { cls := Value.type "code", data := Data.fields #[Value.str (Str.ofString "_law_refused") 1231, Value.str (Str.ofString "_law_refused") 1232, Value.str (Str.ofString "/claim/cut.py") 1233, Value.int 831 0, Value.int 1 0, Value.int 0 0, Value.int 0 0, Value.int 3 0, Value.ref 784, Value.bool true, Value.int 273 0, Value.ref 785, Value.none, Value.ref 786, Value.ref 787, Value.ref 788, Value.int 1235 0, Value.int 831 0, Value.str (Str.ofString "/claim/cut.py") 1236] }),
  (790, ⟨.type "function", none, .func { name := Str.ofString "_law_refused", qualname := Str.ofString "_law_refused", params := (dfD (stA PW.main.body 30)).1, body := .stmts (dfD (stA PW.main.body 30)).2.1, scope := (dfD (stA PW.main.body 30)).2.2, globals := 3, closure := [], defaults := Value.none, kwdefaults := Value.none, pyModule := Value.str (Str.ofString "law_mr0351_01") 1182, code := Value.ref 789 }, #[]⟩),
  (794, { cls := Value.type "code", data := Data.fields #[Value.str (Str.ofString "law") 1238, Value.str (Str.ofString "law") 1239, Value.str (Str.ofString "/claim/cut.py") 1240, Value.int 837 0, Value.int 1 0, Value.int 0 0, Value.int 0 0, Value.int 3 0, Value.ref 791, Value.bool true, Value.int 273 0, Value.ref 792, Value.none, Value.none, Value.none, Value.ref 793, Value.int 1241 0, Value.int 837 0, Value.str (Str.ofString "/claim/cut.py") 1242] }),
  (795, ⟨.type "function", none, .func { name := Str.ofString "law", qualname := Str.ofString "law", params := (dfD (stA PW.main.body 31)).1, body := .stmts (dfD (stA PW.main.body 31)).2.1, scope := (dfD (stA PW.main.body 31)).2.2, globals := 3, closure := [], defaults := Value.none, kwdefaults := Value.none, pyModule := Value.str (Str.ofString "law_mr0351_01") 1182, code := Value.ref 794 }, #[]⟩)]
def kA : List Addr := [2, 3, 40, 41, 47, 48, 49, 50, 56, 57, 70, 71, 72, 80, 81, 82, 97, 98, 100, 101, 102, 103, 104, 107, 115, 116, 119, 127, 128, 131, 167, 357, 358, 361, 368, 374, 375, 381, 382, 388, 389, 411, 419, 427, 435, 443, 544, 550, 551, 604, 605, 657, 663, 664, 670, 671, 672, 700, 701, 707, 708, 729, 730, 736, 737, 739, 740, 741, 742, 745, 751, 752, 756, 757, 763, 764, 770, 771, 777, 778, 782, 783, 789, 790, 794, 795]
theorem kA_eq (P : Params) : kA = (kH P).map (·.1) := by kernel_rfl
end Mine
end -- KH
section -- RUN
set_option maxRecDepth 100000
set_option maxHeartbeats 4000000
namespace Mine
/-! the library's quick twins of the machine -/
noncomputable abbrev qStep := @PySem.W.Fast.tw10156331382660048174
noncomputable abbrev qDen := @PySem.W.Fast.tw11892475500146522536
noncomputable abbrev qTree := @PySem.W.Fast.tw14364793385576792824
noncomputable abbrev qStart := @PySem.W.Fast.tw1435165496053646825
noncomputable abbrev qSeen := @PySem.W.Fast.tw4187177175401517315
theorem qStep_eq : stepT (denote treeTable) = qStep (qDen qTree) := by rw [PySem.W.Fast.te10156331382660048174, PySem.W.Fast.te11892475500146522536, PySem.W.Fast.te14364793385576792824]
theorem qStart_eq : start = qStart := PySem.W.Fast.te1435165496053646825
theorem qSeen_eq : openSeen = qSeen := PySem.W.Fast.te4187177175401517315
/-! the opening over the tree, run by the kernel -/
noncomputable def impT (p : Program) (w : World) (n : Nat) : SharedT → Thread → Option SharedT :=
  @Nat.rec (fun _ => SharedT → Thread → Option SharedT) (fun _ _ => none) (fun _ ih s t => match t.atExitBegin with
    | some [] => some s
    | some _ => none
    | none => match qStep (qDen qTree) p w s t with
      | some (s', t') => ih s' t'
      | none => none) n
theorem impT_of {p : Program} {w : World} : ∀ (n : Nat) (s r : SharedT) (t : Thread), impT p w n s t = some r → importEnds treeTable p w n s.abs t = some r.abs
  | 0, _, _, _, h => by cases (show none = some _ from h)
  | n + 1, s, r, t, h => by
    have h : (match t.atExitBegin with
      | some [] => some s
      | some _ => none
      | none => match qStep (qDen qTree) p w s t with
        | some (s', t') => impT p w n s' t'
        | none => none) = some r := h
    unfold importEnds
    cases ht : t.atExitBegin with
    | some l => rw [ht] at h; cases l with
      | nil => cases h; rfl
      | cons _ _ => cases h
    | none =>
      rw [ht] at h
      dsimp only at h ⊢
      rw [← qStep_eq] at h
      cases hs : stepT (denote treeTable) p w s t with
      | none => rw [hs] at h; cases h
      | some x => obtain ⟨s', t'⟩ := x; rw [hs] at h; rw [stepT_spec hs]; exact impT_of n s' r t' h
/-- a list of objects as a tree -/
noncomputable def insAll (l : List Obj) : BT → Nat → Option BT :=
  @List.rec Obj (fun _ => BT → Nat → Option BT) (fun T _ => some T) (fun o _ ih T n => match ((T.ins n o).get n).isSome with
    | true => ih (T.ins n o) (n + 1)
    | false => none) l
theorem insAll_of {life : Life} : ∀ (l : List Obj) (T T' : BT) (n : Nat), insAll l T n = some T' → (absHeap T' (n + l.length) life).objs = (absHeap T n life).objs ++ l.toArray
  | [], T, T', n, h => by cases (show some T = some T' from h); simp
  | o :: l, T, T', n, h => by
    have h : (match ((T.ins n o).get n).isSome with
      | true => insAll l (T.ins n o) (n + 1)
      | false => none) = some T' := h
    cases e : ((T.ins n o).get n).isSome with
    | false => rw [e] at h; cases h
    | true =>
      rw [e] at h
      have ih := insAll_of (life := life) l (T.ins n o) T' (n + 1) h
      rw [absHeap_ins e] at ih
      rw [List.length_cons, show n + (l.length + 1) = n + 1 + l.length from by omega, ih]
      show (absHeap T n life).objs.push o ++ l.toArray = _
      simp
noncomputable def s0T (p : Program) : SharedT := ⟨.nil, 0, (start p).1.heap.life, (start p).1.gens, (start p).1.drawn, (start p).1.toks, (start p).1.os⟩
theorem s0T_abs (p : Program) : (s0T p).abs = (start p).1 := by kernel_rfl
/-- what stands in the tree stands in the heap -/
noncomputable def kSeen (as : List Addr) (s : SharedT) : List (Bool × Option Obj) := as.map fun a => (Nat.blt a s.n, s.tree.get a)
theorem kSeen_of {s : SharedT} : ∀ {K : Frag}, (K.map fun p => alive p.2) = (K.map fun p => some p.2) → kSeen (K.map (·.1)) s = (K.map fun p => (true, some p.2)) → (K.map (·.1)).map s.abs.heap.get? = K.map fun p => some p.2
  | [], _, _ => rfl
  | (a, o) :: K, h1, h2 => by
    obtain ⟨a1, a2⟩ := List.cons.inj h1
    obtain ⟨b1, b2⟩ := List.cons.inj (show (Nat.blt a s.n, s.tree.get a) :: kSeen (K.map (·.1)) s = (true, some o) :: K.map (fun p => (true, some p.2)) from h2)
    obtain ⟨c1, c2⟩ := Prod.mk.inj b1
    show (absHeap s.tree s.n s.life).get? a :: (K.map (·.1)).map s.abs.heap.get? = some o :: K.map fun p => some p.2
    rw [kSeen_of a2 b2, abs_get (Nat.le_of_ble_eq_true c1) c2, show alive o = some o from a1]
end Mine
end -- RUN
section -- ST
set_option maxRecDepth 100000
set_option maxHeartbeats 4000000
namespace Mine
noncomputable abbrev bP : List Stmt := PW.main.body
noncomputable def mA (i j : Nat) : Stmt := stA (bodyC (stA bP i)) j
noncomputable def sV (s : String) (t : Tok) : Value := .str (Str.ofString s) t
noncomputable def tO (l : List Value) : Obj := { cls := .type "tuple", data := .seq l.toArray }
noncomputable def fO (st : Stmt) (n q : String) (d k : Value) (m : String) (t : Tok) (c : Addr) : Obj := ⟨.type "function", none, .func { name := Str.ofString n, qualname := Str.ofString q, params := (dfD st).1, body := .stmts (dfD st).2.1, scope := (dfD st).2.2, globals := 3, closure := [], defaults := d, kwdefaults := k, pyModule := sV m t, code := .ref c }, #[]⟩
noncomputable def pO (st : Stmt) (n q : String) : Obj := ⟨.none, none, .func { name := Str.ofString n, qualname := Str.ofString q, params := (dfD st).1, body := .stmts (dfD st).2.1, scope := (dfD st).2.2, globals := 0, closure := [], defaults := .none, kwdefaults := .none }, #[]⟩
noncomputable def cO (n : String) (t1 : Tok) (q : String) (t2 t3 : Tok) (a b c d e : Int) (r1 : Addr) (f : Bool) (g : Int) (r2 r3 r4 r5 : Addr) (h i : Int) (t4 : Tok) : Obj := { cls := .type "code", data := .fields #[sV n t1, sV q t2, sV "/claim/cut.py" t3, .int a 0, .int b 0, .int c 0, .int d 0, .int e 0, .ref r1, .bool f, .int g 0, .ref r2, .none, .ref r3, .ref r4, .ref r5, .int h 0, .int i 0, sV "/claim/cut.py" t4] }
noncomputable abbrev Objs0 := List (Addr × Obj)
noncomputable def d_s0 (P : Params) (o19 o28 : Obj) : Objs0 := [
  (0, { cls := .type "dict", data := Data.dict #[kE P "__name__" 1 (sV "builtins" 160), kE P "__doc__" 2 (.builtin "builtins.__doc__:str#opaque"), kE P "__package__" 3 (.builtin "builtins.__package__:str#opaque"), kE P "__loader__" 4 (.builtin "builtins.__loader__:shared#opaque"), kE P "__spec__" 5 (.builtin "builtins.__spec__#opaque"), kE P "__build_class__" 6 (.builtin "__build_class__"), kE P "__import__" 7 (.builtin "__import__"), kE P "abs" 8 (.builtin "abs"), kE P "all" 9 (.builtin "all"), kE P "any" 10 (.builtin "any"), kE P "ascii" 11 (.builtin "ascii"), kE P "bin" 12 (.builtin "bin"), kE P "breakpoint" 13 (.builtin "breakpoint"), kE P "callable" 14 (.builtin "callable"), kE P "chr" 15 (.builtin "chr"), kE P "compile" 16 (.builtin "compile"), kE P "delattr" 17 (.builtin "delattr"), kE P "dir" 18 (.builtin "dir"), kE P "divmod" 19 (.builtin "divmod"), kE P "eval" 20 (.builtin "eval"), kE P "exec" 21 (.builtin "exec"), kE P "format" 22 (.builtin "format"), kE P "getattr" 23 (.builtin "getattr"), kE P "globals" 24 (.builtin "globals"), kE P "hasattr" 25 (.builtin "hasattr"), kE P "hash" 26 (.builtin "hash"), kE P "hex" 27 (.builtin "hex"), kE P "id" 28 (.builtin "id"), kE P "input" 29 (.builtin "input"), kE P "isinstance" 30 (.builtin "isinstance"), kE P "issubclass" 31 (.builtin "issubclass"), kE P "iter" 32 (.builtin "iter"), kE P "aiter" 33 (.builtin "aiter"), kE P "len" 34 (.builtin "len"), kE P "locals" 35 (.builtin "locals"), kE P "max" 36 (.builtin "max"), kE P "min" 37 (.builtin "min"), kE P "next" 38 (.builtin "next"), kE P "anext" 39 (.builtin "anext"), kE P "oct" 40 (.builtin "oct"), kE P "ord" 41 (.builtin "ord"), kE P "pow" 42 (.builtin "pow"), kE P "print" 43 (.builtin "print"), kE P "repr" 44 (.builtin "repr"), kE P "round" 45 (.builtin "round"), kE P "setattr" 46 (.builtin "setattr"), kE P "sorted" 47 (.builtin "sorted"), kE P "sum" 48 (.builtin "sum"), kE P "vars" 49 (.builtin "vars"), kE P "None" 50 .none, kE P "Ellipsis" 51 (Value.ellipsis), kE P "NotImplemented" 52 (Value.notImplemented), kE P "False" 53 (.bool false), kE P "True" 54 (.bool true), kE P "bool" 55 (.type "bool"), kE P "memoryview" 56 (.type "memoryview"), kE P "bytearray" 57 (.type "bytearray"), kE P "bytes" 58 (.type "bytes"), kE P "classmethod" 59 (.type "classmethod"), kE P "complex" 60 (.type "complex"), kE P "dict" 61 (.type "dict"), kE P "enumerate" 62 (.type "enumerate"), kE P "filter" 63 (.type "filter"), kE P "float" 64 (.type "float"), kE P "frozenset" 65 (.type "frozenset"), kE P "property" 66 (.type "property"), kE P "int" 67 (.type "int"), kE P "list" 68 (.type "list"), kE P "map" 69 (.type "map"), kE P "object" 70 (.type "object"), kE P "range" 71 (.type "range"), kE P "reversed" 72 (.type "reversed"), kE P "set" 73 (.type "set"), kE P "slice" 74 (.type "slice"), kE P "staticmethod" 75 (.type "staticmethod"), kE P "str" 76 (.type "str"), kE P "super" 77 (.type "super"), kE P "tuple" 78 (.type "tuple"), kE P "type" 79 (.type "type"), kE P "zip" 80 (.type "zip"), kE P "__debug__" 81 (.bool true), kE P "BaseException" 82 (.type "BaseException"), kE P "BaseExceptionGroup" 83 (.type "BaseExceptionGroup"), kE P "Exception" 84 (.type "Exception"), kE P "GeneratorExit" 85 (.type "GeneratorExit"), kE P "KeyboardInterrupt" 86 (.type "KeyboardInterrupt"), kE P "SystemExit" 87 (.type "SystemExit"), kE P "ArithmeticError" 88 (.type "ArithmeticError"), kE P "AssertionError" 89 (.type "AssertionError"), kE P "AttributeError" 90 (.type "AttributeError"), kE P "BufferError" 91 (.type "BufferError"), kE P "EOFError" 92 (.type "EOFError"), kE P "ImportError" 93 (.type "ImportError"), kE P "LookupError" 94 (.type "LookupError"), kE P "MemoryError" 95 (.type "MemoryError"), kE P "NameError" 96 (.type "NameError"), kE P "OSError" 97 (.type "OSError"), kE P "ReferenceError" 98 (.type "ReferenceError"), kE P "RuntimeError" 99 (.type "RuntimeError"), kE P "StopAsyncIteration" 100 (.type "StopAsyncIteration"), kE P "StopIteration" 101 (.type "StopIteration"), kE P "SyntaxError" 102 (.type "SyntaxError"), kE P "SystemError" 103 (.type "SystemError"), kE P "TypeError" 104 (.type "TypeError"), kE P "ValueError" 105 (.type "ValueError"), kE P "Warning" 106 (.type "Warning"), kE P "FloatingPointError" 107 (.type "FloatingPointError"), kE P "OverflowError" 108 (.type "OverflowError"), kE P "ZeroDivisionError" 109 (.type "ZeroDivisionError"), kE P "BytesWarning" 110 (.type "BytesWarning"), kE P "DeprecationWarning" 111 (.type "DeprecationWarning"), kE P "EncodingWarning" 112 (.type "EncodingWarning"), kE P "FutureWarning" 113 (.type "FutureWarning"), kE P "ImportWarning" 114 (.type "ImportWarning"), kE P "PendingDeprecationWarning" 115 (.type "PendingDeprecationWarning"), kE P "ResourceWarning" 116 (.type "ResourceWarning"), kE P "RuntimeWarning" 117 (.type "RuntimeWarning"), kE P "SyntaxWarning" 118 (.type "SyntaxWarning"), kE P "UnicodeWarning" 119 (.type "UnicodeWarning"), kE P "UserWarning" 120 (.type "UserWarning"), kE P "BlockingIOError" 121 (.type "BlockingIOError"), kE P "ChildProcessError" 122 (.type "ChildProcessError"), kE P "ConnectionError" 123 (.type "ConnectionError"), kE P "FileExistsError" 124 (.type "FileExistsError"), kE P "FileNotFoundError" 125 (.type "FileNotFoundError"), kE P "InterruptedError" 126 (.type "InterruptedError"), kE P "IsADirectoryError" 127 (.type "IsADirectoryError"), kE P "NotADirectoryError" 128 (.type "NotADirectoryError"), kE P "PermissionError" 129 (.type "PermissionError"), kE P "ProcessLookupError" 130 (.type "ProcessLookupError"), kE P "TimeoutError" 131 (.type "TimeoutError"), kE P "IndentationError" 132 (.type "IndentationError"), kE P "_IncompleteInputError" 133 (.type "_IncompleteInputError"), kE P "IndexError" 134 (.type "IndexError"), kE P "KeyError" 135 (.type "KeyError"), kE P "ModuleNotFoundError" 136 (.type "ModuleNotFoundError"), kE P "NotImplementedError" 137 (.type "NotImplementedError"), kE P "PythonFinalizationError" 138 (.type "PythonFinalizationError"), kE P "RecursionError" 139 (.type "RecursionError"), kE P "UnboundLocalError" 140 (.type "UnboundLocalError"), kE P "UnicodeError" 141 (.type "UnicodeError"), kE P "BrokenPipeError" 142 (.type "BrokenPipeError"), kE P "ConnectionAbortedError" 143 (.type "ConnectionAbortedError"), kE P "ConnectionRefusedError" 144 (.type "ConnectionRefusedError"), kE P "ConnectionResetError" 145 (.type "ConnectionResetError"), kE P "TabError" 146 (.type "TabError"), kE P "UnicodeDecodeError" 147 (.type "UnicodeDecodeError"), kE P "UnicodeEncodeError" 148 (.type "UnicodeEncodeError"), kE P "UnicodeTranslateError" 149 (.type "UnicodeTranslateError"), kE P "ExceptionGroup" 150 (.type "ExceptionGroup"), kE P "EnvironmentError" 151 (.type "OSError"), kE P "IOError" 152 (.type "OSError"), kE P "open" 153 (.builtin "open"), kE P "quit" 154 (.builtin "builtins.quit#opaque"), kE P "exit" 155 (.builtin "builtins.exit#opaque"), kE P "copyright" 156 (.builtin "builtins.copyright#opaque"), kE P "credits" 157 (.builtin "builtins.credits#opaque"), kE P "license" 158 (.builtin "builtins.license#opaque"), kE P "help" 159 (.builtin "builtins.help#opaque")] 159 }),
  (1, { cls := .type "dict", data := Data.dict #[kE P "builtins" 162 (.ref 4), kE P "__main__" 163 (.ref 5), kE P "_collections" 246 (.ref 13)] 3 }),
  (2, { cls := .none, data := Data.dict #[kE P "\x69mport.loaded._collections" 185 (.bool true), kE P "class._frozen_importlib.BuiltinImporter" 187 (.ref 15), kE P "watched.\x69mport" 208 (.ref 19), kE P "class._frozen_importlib.ModuleSpec" 218 (.ref 23), kE P "sys.modules.booked-epoch" 247 (.int 3 0), kE P "sys.modules.landed._collections" 248 (.bool true), kE P "\x69mport.later-laid._collections" 263 (.bool true), kE P "watched.library" 265 (.ref 28), kE P "watched.library-objects" 0 (sV "\x0d" 0), kE P "watched.library-deep._collections" 266 (sV "\x04\x00\x00\x0c\x04\x00\x00\x0c\x04\x00\x00\x03\x04\x00\x00\x0c\x08\x04dict\x02" 0)] 10 }),
  (3, { cls := .type "dict", data := Data.dict #[kE P "__name__" 165 (sV "__main__" 164), kE P "__doc__" 166 .none, kE P "__package__" 167 .none, kE P "__loader__" 168 (.builtin "__main__.__loader__#opaque"), kE P "__spec__" 169 .none, kE P "__annotations__" 170 (.ref 6), kE P "__builtins__" 171 (.ref 4), kE P "__file__" 173 (sV "/claim/cut.py" 172), kE P "__cached__" 174 .none, kE P "deque" 272 (.type "collections.deque")] 10 }),
  (4, { cls := .type "module", dict := some 0 }),
  (5, { cls := .type "module", dict := some 3 }),
  (6, { cls := .type "dict", data := Data.dict #[] }),
  (7, tO []),
  (8, { cls := .none, data := Data.fields #[] }),
  (9, { cls := .type "code", data := Data.fields #[sV "<module>" 176, sV "<module>" 177, sV "/claim/cut.py" 178, .int 1 0, .int 0 0, .int 0 0, .int 0 0, .int 0 0, .ref 7, .bool false, .int 175 0, .ref 8, .none, .none, .none, .none, .int 179 0, .int 1 0, sV "/claim/cut.py" 180] }),
  (10, { cls := .type "frame", slots := #[some (.ref 9), some (.ref 3), some (.ref 3), none, some (sV "__main__" 164), none, some (.ref 0)] }),
  (11, tO [sV "deque" 182]),
  (12, { cls := .type "dict", data := Data.dict #[kE P "__name__" 250 (sV "_collections" 249), kE P "__doc__" 251 (.builtin "off-the-table:_collections.__doc__:shared#opaque"), kE P "__package__" 253 (sV "" 252), kE P "__loader__" 254 (.builtin "off-the-table:_collections.__loader__:shared#opaque"), kE P "__spec__" 255 (.builtin "off-the-table:_collections.__spec__:shared#opaque"), kE P "_count_elements" 256 (.builtin "_collections._count_elements"), kE P "deque" 257 (.type "collections.deque"), kE P "defaultdict" 258 (.type "collections.defaultdict"), kE P "_deque_iterator" 259 (.builtin "off-the-table:_collections._deque_iterator:shared#opaque"), kE P "_deque_reverse_iterator" 260 (.builtin "off-the-table:_collections._deque_reverse_iterator:shared#opaque"), kE P "_tuplegetter" 261 (.type "collections._tuplegetter"), kE P "OrderedDict" 262 (.type "collections.OrderedDict")] 12 }),
  (13, { cls := .type "module", dict := some 12 }),
  (14, { cls := .type "dict", data := Data.dict #[kE P "__module__" 191 (sV "_frozen_importlib" 188), kE P "__firstlineno__" 192 (.int 971 189), kE P "__doc__" 193 (.builtin "_frozen_importlib.BuiltinImporter.__doc__:str#opaque"), kE P "_ORIGIN" 194 (sV "built-in" 190), kE P "find_spec" 195 (.builtin "_frozen_importlib.BuiltinImporter.find_spec#opaque"), kE P "create_module" 196 (.builtin "_frozen_importlib.BuiltinImporter.create_module#opaque"), kE P "exec_module" 197 (.builtin "_frozen_importlib.BuiltinImporter.exec_module#opaque"), kE P "get_code" 198 (.builtin "_frozen_importlib.BuiltinImporter.get_code#opaque"), kE P "get_source" 199 (.builtin "_frozen_importlib.BuiltinImporter.get_source#opaque"), kE P "is_package" 200 (.builtin "_frozen_importlib.BuiltinImporter.is_package#opaque"), kE P "load_module" 201 (.builtin "_frozen_importlib.BuiltinImporter.load_module#opaque"), kE P "__static_attributes__" 202 (.ref 16), kE P "__dict__" 204 (.ref 17), kE P "__weakref__" 206 (.ref 18)] 14 }),
  (15, { cls := .type "type", data := Data.cls { name := Str.ofString "BuiltinImporter", bases := [.type "object"], mro := [.ref 15, .type "object"], ns := 14, qualname := Str.ofString "BuiltinImporter" } }),
  (16, tO []),
  (17, { cls := .type "getset_descriptor", data := Data.fields #[sV "__dict__" 203, .ref 15, .builtin "function.__dict__", .builtin "function.__dict__#set"] }),
  (18, { cls := .type "getset_descriptor", data := Data.fields #[sV "__weakref__" 205, .ref 15, .builtin "ExceptionGroup.__weakref__", .none] }),
  (19, o19),
  (20, { cls := .type "list", data := Data.seq #[] }),
  (21, { cls := .type "dict", data := Data.dict #[kE P "name" 210 (sV "_collections" 209), kE P "loader" 211 (.ref 15), kE P "origin" 212 (sV "built-in" 186), kE P "loader_state" 213 .none, kE P "submodule_search_locations" 214 .none, kE P "_uninitialized_submodules" 215 (.ref 20), kE P "_set_fileattr" 216 (.bool false), kE P "_cached" 217 .none, kE P "_initializing" 245 (.bool false)] 9 }),
  (22, { cls := .type "dict", data := Data.dict #[kE P "__module__" 229 (sV "_frozen_importlib" 219), kE P "__firstlineno__" 230 (.int 562 220), kE P "__doc__" 231 (.builtin "_frozen_importlib.ModuleSpec.__doc__:str#opaque"), kE P "__init__" 232 (.builtin "_frozen_importlib.ModuleSpec.__init__#opaque"), kE P "__repr__" 233 (.builtin "_frozen_importlib.ModuleSpec.__repr__#opaque"), kE P "__eq__" 234 (.builtin "_frozen_importlib.ModuleSpec.__eq__#opaque"), kE P "cached" 235 (.builtin "_frozen_importlib.ModuleSpec.cached#opaque"), kE P "parent" 236 (.builtin "_frozen_importlib.ModuleSpec.parent#opaque"), kE P "has_location" 237 (.builtin "_frozen_importlib.ModuleSpec.has_location#opaque"), kE P "__static_attributes__" 238 (.ref 24), kE P "__dict__" 240 (.ref 25), kE P "__weakref__" 242 (.ref 26), kE P "__hash__" 243 .none] 13 }),
  (23, { cls := .type "type", data := Data.cls { name := Str.ofString "ModuleSpec", bases := [.type "object"], mro := [.ref 23, .type "object"], ns := 22, qualname := Str.ofString "ModuleSpec" } }),
  (24, tO [sV "_cached" 221, sV "_set_fileattr" 222, sV "_uninitialized_submodules" 223, sV "loader" 224, sV "loader_state" 225, sV "name" 226, sV "origin" 227, sV "submodule_search_locations" 228]),
  (25, { cls := .type "getset_descriptor", data := Data.fields #[sV "__dict__" 239, .ref 23, .builtin "function.__dict__", .builtin "function.__dict__#set"] }),
  (26, { cls := .type "getset_descriptor", data := Data.fields #[sV "__weakref__" 241, .ref 23, .builtin "ExceptionGroup.__weakref__", .none] }),
  (27, { cls := .ref 23, dict := some 21 }),
  (28, o28)]
noncomputable def d_sb (P : Params) : Objs0 := [
  (29, tO []),
  (30, { cls := .none, data := Data.fields #[] }),
  (31, { cls := .type "code", data := Data.fields #[sV "<module>" 274, sV "<module>" 275, sV "/claim/cut.py" 276, .int 1 0, .int 0 0, .int 0 0, .int 0 0, .int 0 0, .ref 29, .bool false, .int 273 0, .ref 30, .none, .none, .none, .none, .int 277 0, .int 1 0, sV "/claim/cut.py" 278] }),
  (32, { cls := .type "frame", slots := #[some (.ref 31), some (.ref 3), some (.ref 3), none, some (sV "__main__" 164), none, some (.ref 0)] })]
noncomputable def d_s10 (P : Params) : Objs0 := [
  (2, { cls := .none, data := Data.dict #[kE P "\x69mport.loaded._collections" 185 (.bool true), kE P "class._frozen_importlib.BuiltinImporter" 187 (.ref 15), kE P "watched.\x69mport" 208 (.ref 19), kE P "class._frozen_importlib.ModuleSpec" 218 (.ref 23), kE P "sys.modules.booked-epoch" 247 (.int 3 0), kE P "sys.modules.landed._collections" 248 (.bool true), kE P "\x69mport.later-laid._collections" 263 (.bool true), kE P "watched.library" 265 (.ref 28), kE P "watched.library-objects" 0 (sV "\x0d" 0), kE P "watched.library-deep._collections" 266 (sV "\x04\x00\x00\x0c\x04\x00\x00\x0c\x04\x00\x00\x03\x04\x00\x00\x0c\x08\x04dict\x02" 0), kE P "type.__subclasses__.OSError.0" 352 (.int 81 0), kE P "type.__subclasses__.OSError.n" 353 (.int 1 0)] 12 }),
  (3, { cls := .type "dict", data := Data.dict #[kE P "__name__" 165 (sV "io" 316), kE P "__doc__" 166 .none, kE P "__package__" 167 .none, kE P "__loader__" 168 (.builtin "__main__.__loader__#opaque"), kE P "__spec__" 169 .none, kE P "__annotations__" 170 (.ref 6), kE P "__builtins__" 171 (.ref 4), kE P "__file__" 173 (sV "/claim/cut.py" 172), kE P "__cached__" 174 .none, kE P "deque" 272 (.type "collections.deque"), kE P "_wall" 285 (.ref 39), kE P "bisect_right" 301 (.ref 48), kE P "bisect_left" 315 (.ref 57), kE P "_whence" 325 (.ref 64), kE P "_index" 333 (.ref 71), kE P "UnsupportedOperation" 355 (.ref 81), kE P "IOBase" 387 (.ref 101), kE P "BufferedIOBase" 405 (.ref 116), kE P "TextIOBase" 423 (.ref 128)] 19 }),
  (30, { cls := .none, data := Data.fields #[.int 2 0, .int 0 0, .ref 38, .int 6 0, .int 0 0, .ref 47, .int 26 0, .int 0 0, .ref 56, .int 47 0, .int 0 0, .ref 63, .int 52 0, .int 0 0, .ref 70, .int 59 0, .int 0 0, .ref 77, .int 61 0, .int 0 0, .ref 90, .int 68 0, .int 0 0, .ref 112, .int 70 0, .int 0 0, .ref 124] }),
  (33, tO []),
  (34, { cls := .none, data := Data.fields #[] }),
  (35, tO [sV "k" 282]),
  (36, tO []),
  (37, pO (stA bP 1) "_wall" "_wall"),
  (38, cO "_wall" 279 "_wall" 280 281 2 1 0 0 3 33 true 273 34 35 36 37 283 2 284),
  (39, fO (stA bP 1) "_wall" "_wall" (.none) (.none) "__main__" 164 38),
  (40, tO [.int 0 288, .none]),
  (41, { cls := .type "dict", data := Data.dict #[kE P "key" 289 .none] 1 }),
  (42, tO []),
  (43, { cls := .none, data := Data.fields #[] }),
  (44, tO [sV "a" 293, sV "x" 294, sV "lo" 295, sV "hi" 296, sV "key" 297, sV "mid" 298]),
  (45, tO []),
  (46, pO (stA bP 3) "bisect_right" "bisect_right"),
  (47, cO "bisect_right" 290 "bisect_right" 291 292 6 4 0 1 3 42 true 273 43 44 45 46 299 6 300),
  (48, fO (stA bP 3) "bisect_right" "bisect_right" (.ref 40) (.ref 41) "cpy313.bisect" 286 47),
  (49, tO [.int 0 302, .none]),
  (50, { cls := .type "dict", data := Data.dict #[kE P "key" 303 .none] 1 }),
  (51, tO []),
  (52, { cls := .none, data := Data.fields #[] }),
  (53, tO [sV "a" 307, sV "x" 308, sV "lo" 309, sV "hi" 310, sV "key" 311, sV "mid" 312]),
  (54, tO []),
  (55, pO (stA bP 4) "bisect_left" "bisect_left"),
  (56, cO "bisect_left" 304 "bisect_left" 305 306 26 4 0 1 3 51 true 273 52 53 54 55 313 26 314),
  (57, fO (stA bP 4) "bisect_left" "bisect_left" (.ref 49) (.ref 50) "cpy313.bisect" 286 56),
  (58, tO []),
  (59, { cls := .none, data := Data.fields #[] }),
  (60, tO [sV "n" 321, sV "what" 322]),
  (61, tO []),
  (62, pO (stA bP 6) "_whence" "_whence"),
  (63, cO "_whence" 318 "_whence" 319 320 47 2 0 0 3 58 true 273 59 60 61 62 323 47 324),
  (64, fO (stA bP 6) "_whence" "_whence" (.none) (.none) "io" 316 63),
  (65, tO []),
  (66, { cls := .none, data := Data.fields #[] }),
  (67, tO [sV "n" 329, sV "what" 330]),
  (68, tO []),
  (69, pO (stA bP 7) "_index" "_index"),
  (70, cO "_index" 326 "_index" 327 328 52 2 0 0 3 65 true 273 66 67 68 69 331 52 332),
  (71, fO (stA bP 7) "_index" "_index" (.none) (.none) "io" 316 70),
  (72, tO [.type "OSError", .type "ValueError"]),
  (73, { cls := .type "builtin_function_or_method", data := Data.fields #[.builtin "type.__prepare__", .type "type"] }),
  (74, { cls := .type "dict", data := Data.dict #[kE P "__module__" 341 (sV "io" 346), kE P "__qualname__" 343 (sV "UnsupportedOperation" 342), kE P "__firstlineno__" 345 (.int 59 344), kE P "__static_attributes__" 348 (.ref 79)] 4 }),
  (75, tO []),
  (76, { cls := .none, data := Data.fields #[] }),
  (77, { cls := .type "code", data := Data.fields #[sV "UnsupportedOperation" 336, sV "UnsupportedOperation" 337, sV "/claim/cut.py" 338, .int 59 0, .int 0 0, .int 0 0, .int 0 0, .int 0 0, .ref 75, .bool false, .int 273 0, .ref 76, .none, .none, .none, .none, .int 339 0, .int 59 0, sV "/claim/cut.py" 340] }),
  (78, { cls := .type "frame", slots := #[some (.ref 77), some (.ref 3), some (.ref 74), none, some (sV "io" 316), none, some (.ref 0)] }),
  (79, tO []),
  (80, { cls := .type "dict", data := Data.dict #[kE P "__module__" 341 (sV "io" 346), kE P "__firstlineno__" 345 (.int 59 344), kE P "__static_attributes__" 348 (.ref 79), kE P "__weakref__" 350 (.ref 82), kE P "__doc__" 351 .none] 3 }),
  (81, { cls := .type "type", data := Data.cls { name := Str.ofString "UnsupportedOperation", bases := [.type "OSError", .type "ValueError"], mro := [.ref 81, .type "OSError", .type "ValueError", .type "Exception", .type "BaseException", .type "object"], ns := 80, qualname := Str.ofString "UnsupportedOperation" }, slots := #[some (.ref 72), none, some (sV "UnsupportedOperation" 334), some (sV "UnsupportedOperation" 342), some (.builtin "OSError.__new__"), some (.bool true)] }),
  (82, { cls := .type "getset_descriptor", data := Data.fields #[sV "__weakref__" 349, .ref 81, .builtin "ExceptionGroup.__weakref__", .none] }),
  (83, { cls := .type "super", data := Data.fields #[.ref 81, .ref 81, .ref 81] }),
  (84, { cls := .type "builtin_function_or_method", data := Data.fields #[.builtin "object.__init_subclass__", .ref 81] }),
  (85, tO []),
  (86, { cls := .type "builtin_function_or_method", data := Data.fields #[.builtin "type.__prepare__", .type "type"] }),
  (87, { cls := .type "dict", data := Data.dict #[kE P "__module__" 363 (sV "io" 368), kE P "__qualname__" 365 (sV "IOBase" 364), kE P "__firstlineno__" 367 (.int 61 366), kE P "__new__" 378 (.ref 98), kE P "__static_attributes__" 379 (.ref 99)] 5 }),
  (88, tO []),
  (89, { cls := .none, data := Data.fields #[.int 64 0, .int 4 0, .ref 97] }),
  (90, { cls := .type "code", data := Data.fields #[sV "IOBase" 358, sV "IOBase" 359, sV "/claim/cut.py" 360, .int 61 0, .int 0 0, .int 0 0, .int 0 0, .int 0 0, .ref 88, .bool false, .int 273 0, .ref 89, .none, .none, .none, .none, .int 361 0, .int 61 0, sV "/claim/cut.py" 362] }),
  (91, { cls := .type "frame", slots := #[some (.ref 90), some (.ref 3), some (.ref 87), none, some (sV "io" 316), none, some (.ref 0)] }),
  (92, tO []),
  (93, { cls := .none, data := Data.fields #[] }),
  (94, tO [sV "cls" 373, sV "args" 374, sV "kwargs" 375]),
  (95, tO []),
  (96, pO (mA 9 1) "__new__" "IOBase.__new__"),
  (97, cO "__new__" 370 "IOBase.__new__" 371 372 64 1 1 0 15 92 true 273 93 94 95 96 376 64 377),
  (98, fO (mA 9 1) "__new__" "IOBase.__new__" (.none) (.none) "io" 316 97),
  (99, tO []),
  (100, { cls := .type "dict", data := Data.dict #[kE P "__module__" 363 (sV "io" 368), kE P "__firstlineno__" 367 (.int 61 366), kE P "__new__" 378 (.ref 102), kE P "__static_attributes__" 379 (.ref 99), kE P "__dict__" 382 (.ref 103), kE P "__weakref__" 384 (.ref 104), kE P "__doc__" 385 .none] 4 }),
  (101, { cls := .type "type", data := Data.cls { name := Str.ofString "IOBase", bases := [.type "object"], mro := [.ref 101, .type "object"], ns := 100, qualname := Str.ofString "IOBase", subclasses := [.ref 116, .ref 128] }, slots := #[none, none, some (sV "IOBase" 356), some (sV "IOBase" 364), some .none, some (.bool true)] }),
  (102, { cls := .type "staticmethod", data := Data.fields #[.ref 98] }),
  (103, { cls := .type "getset_descriptor", data := Data.fields #[sV "__dict__" 381, .ref 101, .builtin "function.__dict__", .builtin "function.__dict__#set"] }),
  (104, { cls := .type "getset_descriptor", data := Data.fields #[sV "__weakref__" 383, .ref 101, .builtin "ExceptionGroup.__weakref__", .none] }),
  (105, { cls := .type "super", data := Data.fields #[.ref 101, .ref 101, .ref 101] }),
  (106, { cls := .type "builtin_function_or_method", data := Data.fields #[.builtin "object.__init_subclass__", .ref 101] }),
  (107, tO [.ref 101]),
  (108, { cls := .type "builtin_function_or_method", data := Data.fields #[.builtin "type.__prepare__", .type "type"] }),
  (109, { cls := .type "dict", data := Data.dict #[kE P "__module__" 395 (sV "io" 400), kE P "__qualname__" 397 (sV "BufferedIOBase" 396), kE P "__firstlineno__" 399 (.int 68 398), kE P "__static_attributes__" 402 (.ref 114)] 4 }),
  (110, tO []),
  (111, { cls := .none, data := Data.fields #[] }),
  (112, { cls := .type "code", data := Data.fields #[sV "BufferedIOBase" 390, sV "BufferedIOBase" 391, sV "/claim/cut.py" 392, .int 68 0, .int 0 0, .int 0 0, .int 0 0, .int 0 0, .ref 110, .bool false, .int 273 0, .ref 111, .none, .none, .none, .none, .int 393 0, .int 68 0, sV "/claim/cut.py" 394] }),
  (113, { cls := .type "frame", slots := #[some (.ref 112), some (.ref 3), some (.ref 109), none, some (sV "io" 316), none, some (.ref 0)] }),
  (114, tO []),
  (115, { cls := .type "dict", data := Data.dict #[kE P "__module__" 395 (sV "io" 400), kE P "__firstlineno__" 399 (.int 68 398), kE P "__static_attributes__" 402 (.ref 114), kE P "__doc__" 403 .none] 2 }),
  (116, { cls := .type "type", data := Data.cls { name := Str.ofString "BufferedIOBase", bases := [.ref 101], mro := [.ref 116, .ref 101, .type "object"], ns := 115, qualname := Str.ofString "BufferedIOBase" }, slots := #[some (.ref 107), none, some (sV "BufferedIOBase" 388), some (sV "BufferedIOBase" 396), some .none, some (.bool true)] }),
  (117, { cls := .type "super", data := Data.fields #[.ref 116, .ref 116, .ref 116] }),
  (118, { cls := .type "builtin_function_or_method", data := Data.fields #[.builtin "object.__init_subclass__", .ref 116] }),
  (119, tO [.ref 101]),
  (120, { cls := .type "builtin_function_or_method", data := Data.fields #[.builtin "type.__prepare__", .type "type"] }),
  (121, { cls := .type "dict", data := Data.dict #[kE P "__module__" 413 (sV "io" 418), kE P "__qualname__" 415 (sV "TextIOBase" 414), kE P "__firstlineno__" 417 (.int 70 416), kE P "__static_attributes__" 420 (.ref 126)] 4 }),
  (122, tO []),
  (123, { cls := .none, data := Data.fields #[] }),
  (124, { cls := .type "code", data := Data.fields #[sV "TextIOBase" 408, sV "TextIOBase" 409, sV "/claim/cut.py" 410, .int 70 0, .int 0 0, .int 0 0, .int 0 0, .int 0 0, .ref 122, .bool false, .int 273 0, .ref 123, .none, .none, .none, .none, .int 411 0, .int 70 0, sV "/claim/cut.py" 412] }),
  (125, { cls := .type "frame", slots := #[some (.ref 124), some (.ref 3), some (.ref 121), none, some (sV "io" 316), none, some (.ref 0)] }),
  (126, tO []),
  (127, { cls := .type "dict", data := Data.dict #[kE P "__module__" 413 (sV "io" 418), kE P "__firstlineno__" 417 (.int 70 416), kE P "__static_attributes__" 420 (.ref 126), kE P "__doc__" 421 .none] 2 }),
  (128, { cls := .type "type", data := Data.cls { name := Str.ofString "TextIOBase", bases := [.ref 101], mro := [.ref 128, .ref 101, .type "object"], ns := 127, qualname := Str.ofString "TextIOBase" }, slots := #[some (.ref 119), none, some (sV "TextIOBase" 406), some (sV "TextIOBase" 414), some .none, some (.bool true)] }),
  (129, { cls := .type "super", data := Data.fields #[.ref 128, .ref 128, .ref 128] }),
  (130, { cls := .type "builtin_function_or_method", data := Data.fields #[.builtin "object.__init_subclass__", .ref 128] })]
noncomputable def d_s11 (P : Params) : Objs0 := [
  (3, { cls := .type "dict", data := Data.dict #[kE P "__name__" 165 (sV "io" 316), kE P "__doc__" 166 .none, kE P "__package__" 167 .none, kE P "__loader__" 168 (.builtin "__main__.__loader__#opaque"), kE P "__spec__" 169 .none, kE P "__annotations__" 170 (.ref 6), kE P "__builtins__" 171 (.ref 4), kE P "__file__" 173 (sV "/claim/cut.py" 172), kE P "__cached__" 174 .none, kE P "deque" 272 (.type "collections.deque"), kE P "_wall" 285 (.ref 39), kE P "bisect_right" 301 (.ref 48), kE P "bisect_left" 315 (.ref 57), kE P "_whence" 325 (.ref 64), kE P "_index" 333 (.ref 71), kE P "UnsupportedOperation" 355 (.ref 81), kE P "IOBase" 387 (.ref 101), kE P "BufferedIOBase" 405 (.ref 116), kE P "TextIOBase" 423 (.ref 128), kE P "BytesIO" 685 (.ref 358)] 20 }),
  (30, { cls := .none, data := Data.fields #[.int 2 0, .int 0 0, .ref 38, .int 6 0, .int 0 0, .ref 47, .int 26 0, .int 0 0, .ref 56, .int 47 0, .int 0 0, .ref 63, .int 52 0, .int 0 0, .ref 70, .int 59 0, .int 0 0, .ref 77, .int 61 0, .int 0 0, .ref 90, .int 68 0, .int 0 0, .ref 112, .int 70 0, .int 0 0, .ref 124, .int 72 0, .int 0 0, .ref 136] }),
  (116, { cls := .type "type", data := Data.cls { name := Str.ofString "BufferedIOBase", bases := [.ref 101], mro := [.ref 116, .ref 101, .type "object"], ns := 115, qualname := Str.ofString "BufferedIOBase", subclasses := [.ref 358] }, slots := #[some (.ref 107), none, some (sV "BufferedIOBase" 388), some (sV "BufferedIOBase" 396), some .none, some (.bool true)] }),
  (131, tO [.ref 116]),
  (132, { cls := .type "builtin_function_or_method", data := Data.fields #[.builtin "type.__prepare__", .type "type"] }),
  (133, { cls := .type "dict", data := Data.dict #[kE P "__module__" 431 (sV "_io" 436), kE P "__qualname__" 433 (sV "BytesIO" 432), kE P "__firstlineno__" 435 (.int 72 434), kE P "__init__" 445 (.ref 145), kE P "_BytesIO__check" 452 (.ref 152), kE P "_BytesIO__line" 463 (.ref 159), kE P "closed" 471 (.ref 167), kE P "close" 478 (.ref 174), kE P "__enter__" 485 (.ref 181), kE P "__exit__" 493 (.ref 188), kE P "readable" 500 (.ref 195), kE P "writable" 507 (.ref 202), kE P "seekable" 514 (.ref 209), kE P "isatty" 521 (.ref 216), kE P "flush" 528 (.ref 223), kE P "fileno" 535 (.ref 230), kE P "detach" 542 (.ref 237), kE P "getvalue" 549 (.ref 244), kE P "getbuffer" 556 (.ref 251), kE P "tell" 563 (.ref 258), kE P "seek" 573 (.ref 266), kE P "truncate" 581 (.ref 274), kE P "read" 593 (.ref 282), kE P "read1" 603 (.ref 290), kE P "readinto" 613 (.ref 297), kE P "readinto1" 621 (.ref 304), kE P "readline" 631 (.ref 312), kE P "readlines" 639 (.ref 320), kE P "__iter__" 646 (.ref 327), kE P "__next__" 654 (.ref 334), kE P "write" 664 (.ref 341), kE P "writelines" 672 (.ref 348), kE P "__repr__" 679 (.ref 355), kE P "__static_attributes__" 682 (.ref 356)] 34 }),
  (134, tO []),
  (135, { cls := .none, data := Data.fields #[.int 75 0, .int 4 0, .ref 144, .int 81 0, .int 4 0, .ref 151, .int 85 0, .int 4 0, .ref 158, .int 99 0, .int 4 0, .ref 165, .int 102 0, .int 4 0, .ref 173, .int 105 0, .int 4 0, .ref 180, .int 109 0, .int 4 0, .ref 187, .int 112 0, .int 4 0, .ref 194, .int 116 0, .int 4 0, .ref 201, .int 120 0, .int 4 0, .ref 208, .int 124 0, .int 4 0, .ref 215, .int 128 0, .int 4 0, .ref 222, .int 131 0, .int 4 0, .ref 229, .int 134 0, .int 4 0, .ref 236, .int 137 0, .int 4 0, .ref 243, .int 140 0, .int 4 0, .ref 250, .int 143 0, .int 4 0, .ref 257, .int 147 0, .int 4 0, .ref 265, .int 164 0, .int 4 0, .ref 273, .int 167 0, .int 4 0, .ref 281, .int 181 0, .int 4 0, .ref 289, .int 184 0, .int 4 0, .ref 296, .int 198 0, .int 4 0, .ref 303, .int 201 0, .int 4 0, .ref 311, .int 208 0, .int 4 0, .ref 319, .int 211 0, .int 4 0, .ref 326, .int 214 0, .int 4 0, .ref 333, .int 221 0, .int 4 0, .ref 340, .int 237 0, .int 4 0, .ref 347, .int 240 0, .int 4 0, .ref 354] }),
  (136, { cls := .type "code", data := Data.fields #[sV "BytesIO" 426, sV "BytesIO" 427, sV "/claim/cut.py" 428, .int 72 0, .int 0 0, .int 0 0, .int 0 0, .int 0 0, .ref 134, .bool false, .int 273 0, .ref 135, .none, .none, .none, .none, .int 429 0, .int 72 0, sV "/claim/cut.py" 430] }),
  (137, { cls := .type "frame", slots := #[some (.ref 136), some (.ref 3), some (.ref 133), none, some (sV "io" 316), none, some (.ref 0)] }),
  (138, tO [.none]),
  (139, tO []),
  (140, { cls := .none, data := Data.fields #[] }),
  (141, tO [sV "self" 441, sV "initial_bytes" 442]),
  (142, tO []),
  (143, pO (mA 12 1) "__init__" "BytesIO.__init__"),
  (144, cO "__init__" 438 "BytesIO.__init__" 439 440 75 2 0 0 3 139 true 273 140 141 142 143 443 75 444),
  (145, fO (mA 12 1) "__init__" "BytesIO.__init__" (.ref 138) (.none) "io" 316 144),
  (146, tO []),
  (147, { cls := .none, data := Data.fields #[] }),
  (148, tO [sV "self" 449]),
  (149, tO []),
  (150, pO (mA 12 2) "__check" "BytesIO.__check"),
  (151, cO "__check" 446 "BytesIO.__check" 447 448 81 1 0 0 3 146 true 273 147 148 149 150 450 81 451),
  (152, fO (mA 12 2) "__check" "BytesIO.__check" (.none) (.none) "io" 316 151),
  (153, tO []),
  (154, { cls := .none, data := Data.fields #[] }),
  (155, tO [sV "self" 456, sV "limit" 457, sV "start" 458, sV "stop" 459, sV "i" 460]),
  (156, tO []),
  (157, pO (mA 12 3) "__line" "BytesIO.__line"),
  (158, cO "__line" 453 "BytesIO.__line" 454 455 85 2 0 0 3 153 true 273 154 155 156 157 461 85 462),
  (159, fO (mA 12 3) "__line" "BytesIO.__line" (.none) (.none) "io" 316 158),
  (160, tO []),
  (161, { cls := .none, data := Data.fields #[] }),
  (162, tO [sV "self" 467]),
  (163, tO []),
  (164, pO (mA 12 4) "closed" "BytesIO.closed"),
  (165, cO "closed" 464 "BytesIO.closed" 465 466 98 1 0 0 3 160 true 273 161 162 163 164 468 98 469),
  (166, fO (mA 12 4) "closed" "BytesIO.closed" (.none) (.none) "io" 316 165),
  (167, { cls := .type "property", data := Data.fields #[.ref 166, .none, .none, .none, sV "closed" 471, .bool false] }),
  (168, tO []),
  (169, { cls := .none, data := Data.fields #[] }),
  (170, tO [sV "self" 475]),
  (171, tO []),
  (172, pO (mA 12 5) "close" "BytesIO.close"),
  (173, cO "close" 472 "BytesIO.close" 473 474 102 1 0 0 3 168 true 273 169 170 171 172 476 102 477),
  (174, fO (mA 12 5) "close" "BytesIO.close" (.none) (.none) "io" 316 173),
  (175, tO []),
  (176, { cls := .none, data := Data.fields #[] }),
  (177, tO [sV "self" 482]),
  (178, tO []),
  (179, pO (mA 12 6) "__enter__" "BytesIO.__enter__"),
  (180, cO "__enter__" 479 "BytesIO.__enter__" 480 481 105 1 0 0 3 175 true 273 176 177 178 179 483 105 484),
  (181, fO (mA 12 6) "__enter__" "BytesIO.__enter__" (.none) (.none) "io" 316 180),
  (182, tO []),
  (183, { cls := .none, data := Data.fields #[] }),
  (184, tO [sV "self" 489, sV "args" 490]),
  (185, tO []),
  (186, pO (mA 12 7) "__exit__" "BytesIO.__exit__"),
  (187, cO "__exit__" 486 "BytesIO.__exit__" 487 488 109 1 0 0 7 182 true 273 183 184 185 186 491 109 492),
  (188, fO (mA 12 7) "__exit__" "BytesIO.__exit__" (.none) (.none) "io" 316 187),
  (189, tO []),
  (190, { cls := .none, data := Data.fields #[] }),
  (191, tO [sV "self" 497]),
  (192, tO []),
  (193, pO (mA 12 8) "readable" "BytesIO.readable"),
  (194, cO "readable" 494 "BytesIO.readable" 495 496 112 1 0 0 3 189 true 273 190 191 192 193 498 112 499),
  (195, fO (mA 12 8) "readable" "BytesIO.readable" (.none) (.none) "io" 316 194),
  (196, tO []),
  (197, { cls := .none, data := Data.fields #[] }),
  (198, tO [sV "self" 504]),
  (199, tO []),
  (200, pO (mA 12 9) "writable" "BytesIO.writable"),
  (201, cO "writable" 501 "BytesIO.writable" 502 503 116 1 0 0 3 196 true 273 197 198 199 200 505 116 506),
  (202, fO (mA 12 9) "writable" "BytesIO.writable" (.none) (.none) "io" 316 201),
  (203, tO []),
  (204, { cls := .none, data := Data.fields #[] }),
  (205, tO [sV "self" 511]),
  (206, tO []),
  (207, pO (mA 12 10) "seekable" "BytesIO.seekable"),
  (208, cO "seekable" 508 "BytesIO.seekable" 509 510 120 1 0 0 3 203 true 273 204 205 206 207 512 120 513),
  (209, fO (mA 12 10) "seekable" "BytesIO.seekable" (.none) (.none) "io" 316 208),
  (210, tO []),
  (211, { cls := .none, data := Data.fields #[] }),
  (212, tO [sV "self" 518]),
  (213, tO []),
  (214, pO (mA 12 11) "isatty" "BytesIO.isatty"),
  (215, cO "isatty" 515 "BytesIO.isatty" 516 517 124 1 0 0 3 210 true 273 211 212 213 214 519 124 520),
  (216, fO (mA 12 11) "isatty" "BytesIO.isatty" (.none) (.none) "io" 316 215),
  (217, tO []),
  (218, { cls := .none, data := Data.fields #[] }),
  (219, tO [sV "self" 525]),
  (220, tO []),
  (221, pO (mA 12 12) "flush" "BytesIO.flush"),
  (222, cO "flush" 522 "BytesIO.flush" 523 524 128 1 0 0 3 217 true 273 218 219 220 221 526 128 527),
  (223, fO (mA 12 12) "flush" "BytesIO.flush" (.none) (.none) "io" 316 222),
  (224, tO []),
  (225, { cls := .none, data := Data.fields #[] }),
  (226, tO [sV "self" 532]),
  (227, tO []),
  (228, pO (mA 12 13) "fileno" "BytesIO.fileno"),
  (229, cO "fileno" 529 "BytesIO.fileno" 530 531 131 1 0 0 3 224 true 273 225 226 227 228 533 131 534),
  (230, fO (mA 12 13) "fileno" "BytesIO.fileno" (.none) (.none) "io" 316 229),
  (231, tO []),
  (232, { cls := .none, data := Data.fields #[] }),
  (233, tO [sV "self" 539]),
  (234, tO []),
  (235, pO (mA 12 14) "detach" "BytesIO.detach"),
  (236, cO "detach" 536 "BytesIO.detach" 537 538 134 1 0 0 3 231 true 273 232 233 234 235 540 134 541),
  (237, fO (mA 12 14) "detach" "BytesIO.detach" (.none) (.none) "io" 316 236),
  (238, tO []),
  (239, { cls := .none, data := Data.fields #[] }),
  (240, tO [sV "self" 546]),
  (241, tO []),
  (242, pO (mA 12 15) "getvalue" "BytesIO.getvalue"),
  (243, cO "getvalue" 543 "BytesIO.getvalue" 544 545 137 1 0 0 3 238 true 273 239 240 241 242 547 137 548),
  (244, fO (mA 12 15) "getvalue" "BytesIO.getvalue" (.none) (.none) "io" 316 243),
  (245, tO []),
  (246, { cls := .none, data := Data.fields #[] }),
  (247, tO [sV "self" 553]),
  (248, tO []),
  (249, pO (mA 12 16) "getbuffer" "BytesIO.getbuffer"),
  (250, cO "getbuffer" 550 "BytesIO.getbuffer" 551 552 140 1 0 0 3 245 true 273 246 247 248 249 554 140 555),
  (251, fO (mA 12 16) "getbuffer" "BytesIO.getbuffer" (.none) (.none) "io" 316 250),
  (252, tO []),
  (253, { cls := .none, data := Data.fields #[] }),
  (254, tO [sV "self" 560]),
  (255, tO []),
  (256, pO (mA 12 17) "tell" "BytesIO.tell"),
  (257, cO "tell" 557 "BytesIO.tell" 558 559 143 1 0 0 3 252 true 273 253 254 255 256 561 143 562),
  (258, fO (mA 12 17) "tell" "BytesIO.tell" (.none) (.none) "io" 316 257),
  (259, tO [.int 0 564]),
  (260, tO []),
  (261, { cls := .none, data := Data.fields #[] }),
  (262, tO [sV "self" 568, sV "pos" 569, sV "whence" 570]),
  (263, tO []),
  (264, pO (mA 12 18) "seek" "BytesIO.seek"),
  (265, cO "seek" 565 "BytesIO.seek" 566 567 147 3 3 0 3 260 true 273 261 262 263 264 571 147 572),
  (266, fO (mA 12 18) "seek" "BytesIO.seek" (.ref 259) (.none) "io" 316 265),
  (267, tO [.none]),
  (268, tO []),
  (269, { cls := .none, data := Data.fields #[] }),
  (270, tO [sV "self" 577, sV "size" 578]),
  (271, tO []),
  (272, pO (mA 12 19) "truncate" "BytesIO.truncate"),
  (273, cO "truncate" 574 "BytesIO.truncate" 575 576 164 2 2 0 3 268 true 273 269 270 271 272 579 164 580),
  (274, fO (mA 12 19) "truncate" "BytesIO.truncate" (.ref 267) (.none) "io" 316 273),
  (275, tO [.int (-1) 583]),
  (276, tO []),
  (277, { cls := .none, data := Data.fields #[] }),
  (278, tO [sV "self" 587, sV "size" 588, sV "start" 589, sV "stop" 590]),
  (279, tO []),
  (280, pO (mA 12 20) "read" "BytesIO.read"),
  (281, cO "read" 584 "BytesIO.read" 585 586 167 2 2 0 3 276 true 273 277 278 279 280 591 167 592),
  (282, fO (mA 12 20) "read" "BytesIO.read" (.ref 275) (.none) "io" 316 281),
  (283, tO [.int (-1) 595]),
  (284, tO []),
  (285, { cls := .none, data := Data.fields #[] }),
  (286, tO [sV "self" 599, sV "size" 600]),
  (287, tO []),
  (288, pO (mA 12 21) "read1" "BytesIO.read1"),
  (289, cO "read1" 596 "BytesIO.read1" 597 598 181 2 2 0 3 284 true 273 285 286 287 288 601 181 602),
  (290, fO (mA 12 21) "read1" "BytesIO.read1" (.ref 283) (.none) "io" 316 289),
  (291, tO []),
  (292, { cls := .none, data := Data.fields #[] }),
  (293, tO [sV "self" 607, sV "buffer" 608, sV "start" 609, sV "n" 610]),
  (294, tO []),
  (295, pO (mA 12 22) "readinto" "BytesIO.readinto"),
  (296, cO "readinto" 604 "BytesIO.readinto" 605 606 184 2 2 0 3 291 true 273 292 293 294 295 611 184 612),
  (297, fO (mA 12 22) "readinto" "BytesIO.readinto" (.none) (.none) "io" 316 296),
  (298, tO []),
  (299, { cls := .none, data := Data.fields #[] }),
  (300, tO [sV "self" 617, sV "buffer" 618]),
  (301, tO []),
  (302, pO (mA 12 23) "readinto1" "BytesIO.readinto1"),
  (303, cO "readinto1" 614 "BytesIO.readinto1" 615 616 198 2 2 0 3 298 true 273 299 300 301 302 619 198 620),
  (304, fO (mA 12 23) "readinto1" "BytesIO.readinto1" (.none) (.none) "io" 316 303),
  (305, tO [.int (-1) 623]),
  (306, tO []),
  (307, { cls := .none, data := Data.fields #[] }),
  (308, tO [sV "self" 627, sV "size" 628]),
  (309, tO []),
  (310, pO (mA 12 24) "readline" "BytesIO.readline"),
  (311, cO "readline" 624 "BytesIO.readline" 625 626 201 2 2 0 3 306 true 273 307 308 309 310 629 201 630),
  (312, fO (mA 12 24) "readline" "BytesIO.readline" (.ref 305) (.none) "io" 316 311),
  (313, tO [.none]),
  (314, tO []),
  (315, { cls := .none, data := Data.fields #[] }),
  (316, tO [sV "self" 635, sV "size" 636]),
  (317, tO []),
  (318, pO (mA 12 25) "readlines" "BytesIO.readlines"),
  (319, cO "readlines" 632 "BytesIO.readlines" 633 634 208 2 2 0 3 314 true 273 315 316 317 318 637 208 638),
  (320, fO (mA 12 25) "readlines" "BytesIO.readlines" (.ref 313) (.none) "io" 316 319),
  (321, tO []),
  (322, { cls := .none, data := Data.fields #[] }),
  (323, tO [sV "self" 643]),
  (324, tO []),
  (325, pO (mA 12 26) "__iter__" "BytesIO.__iter__"),
  (326, cO "__iter__" 640 "BytesIO.__iter__" 641 642 211 1 0 0 3 321 true 273 322 323 324 325 644 211 645),
  (327, fO (mA 12 26) "__iter__" "BytesIO.__iter__" (.none) (.none) "io" 316 326),
  (328, tO []),
  (329, { cls := .none, data := Data.fields #[] }),
  (330, tO [sV "self" 650, sV "line" 651]),
  (331, tO []),
  (332, pO (mA 12 27) "__next__" "BytesIO.__next__"),
  (333, cO "__next__" 647 "BytesIO.__next__" 648 649 214 1 0 0 3 328 true 273 329 330 331 332 652 214 653),
  (334, fO (mA 12 27) "__next__" "BytesIO.__next__" (.none) (.none) "io" 316 333),
  (335, tO []),
  (336, { cls := .none, data := Data.fields #[] }),
  (337, tO [sV "self" 658, sV "b" 659, sV "n" 660, sV "start" 661]),
  (338, tO []),
  (339, pO (mA 12 28) "write" "BytesIO.write"),
  (340, cO "write" 655 "BytesIO.write" 656 657 221 2 2 0 3 335 true 273 336 337 338 339 662 221 663),
  (341, fO (mA 12 28) "write" "BytesIO.write" (.none) (.none) "io" 316 340),
  (342, tO []),
  (343, { cls := .none, data := Data.fields #[] }),
  (344, tO [sV "self" 668, sV "lines" 669]),
  (345, tO []),
  (346, pO (mA 12 29) "writelines" "BytesIO.writelines"),
  (347, cO "writelines" 665 "BytesIO.writelines" 666 667 237 2 2 0 3 342 true 273 343 344 345 346 670 237 671),
  (348, fO (mA 12 29) "writelines" "BytesIO.writelines" (.none) (.none) "io" 316 347),
  (349, tO []),
  (350, { cls := .none, data := Data.fields #[] }),
  (351, tO [sV "self" 676]),
  (352, tO []),
  (353, pO (mA 12 30) "__repr__" "BytesIO.__repr__"),
  (354, cO "__repr__" 673 "BytesIO.__repr__" 674 675 240 1 0 0 3 349 true 273 350 351 352 353 677 240 678),
  (355, fO (mA 12 30) "__repr__" "BytesIO.__repr__" (.none) (.none) "io" 316 354),
  (356, tO [sV "__buf" 680, sV "__pos" 681]),
  (357, { cls := .type "dict", data := Data.dict #[kE P "__module__" 431 (sV "_io" 436), kE P "__firstlineno__" 435 (.int 72 434), kE P "__init__" 445 (.ref 145), kE P "_BytesIO__check" 452 (.ref 152), kE P "_BytesIO__line" 463 (.ref 159), kE P "closed" 471 (.ref 167), kE P "close" 478 (.ref 174), kE P "__enter__" 485 (.ref 181), kE P "__exit__" 493 (.ref 188), kE P "readable" 500 (.ref 195), kE P "writable" 507 (.ref 202), kE P "seekable" 514 (.ref 209), kE P "isatty" 521 (.ref 216), kE P "flush" 528 (.ref 223), kE P "fileno" 535 (.ref 230), kE P "detach" 542 (.ref 237), kE P "getvalue" 549 (.ref 244), kE P "getbuffer" 556 (.ref 251), kE P "tell" 563 (.ref 258), kE P "seek" 573 (.ref 266), kE P "truncate" 581 (.ref 274), kE P "read" 593 (.ref 282), kE P "read1" 603 (.ref 290), kE P "readinto" 613 (.ref 297), kE P "readinto1" 621 (.ref 304), kE P "readline" 631 (.ref 312), kE P "readlines" 639 (.ref 320), kE P "__iter__" 646 (.ref 327), kE P "__next__" 654 (.ref 334), kE P "write" 664 (.ref 341), kE P "writelines" 672 (.ref 348), kE P "__repr__" 679 (.ref 355), kE P "__static_attributes__" 682 (.ref 356), kE P "__doc__" 683 .none] 2 }),
  (358, { cls := .type "type", data := Data.cls { name := Str.ofString "BytesIO", bases := [.ref 116], mro := [.ref 358, .ref 116, .ref 101, .type "object"], ns := 357, qualname := Str.ofString "BytesIO" }, slots := #[some (.ref 131), none, some (sV "BytesIO" 424), some (sV "BytesIO" 432), some .none, some (.bool true)] }),
  (359, { cls := .type "super", data := Data.fields #[.ref 358, .ref 358, .ref 358] }),
  (360, { cls := .type "builtin_function_or_method", data := Data.fields #[.builtin "object.__init_subclass__", .ref 358] })]
noncomputable def d_s12 (P : Params) : Objs0 := [
  (3, { cls := .type "dict", data := Data.dict #[kE P "__name__" 165 (sV "io" 316), kE P "__doc__" 166 .none, kE P "__package__" 167 .none, kE P "__loader__" 168 (.builtin "__main__.__loader__#opaque"), kE P "__spec__" 169 .none, kE P "__annotations__" 170 (.ref 6), kE P "__builtins__" 171 (.ref 4), kE P "__file__" 173 (sV "/claim/cut.py" 172), kE P "__cached__" 174 .none, kE P "deque" 272 (.type "collections.deque"), kE P "_wall" 285 (.ref 39), kE P "bisect_right" 301 (.ref 48), kE P "bisect_left" 315 (.ref 57), kE P "_whence" 325 (.ref 64), kE P "_index" 333 (.ref 71), kE P "UnsupportedOperation" 355 (.ref 81), kE P "IOBase" 387 (.ref 101), kE P "BufferedIOBase" 405 (.ref 116), kE P "TextIOBase" 423 (.ref 128), kE P "BytesIO" 685 (.ref 358), kE P "StringIO" 972 (.ref 605)] 21 }),
  (30, { cls := .none, data := Data.fields #[.int 2 0, .int 0 0, .ref 38, .int 6 0, .int 0 0, .ref 47, .int 26 0, .int 0 0, .ref 56, .int 47 0, .int 0 0, .ref 63, .int 52 0, .int 0 0, .ref 70, .int 59 0, .int 0 0, .ref 77, .int 61 0, .int 0 0, .ref 90, .int 68 0, .int 0 0, .ref 112, .int 70 0, .int 0 0, .ref 124, .int 72 0, .int 0 0, .ref 136, .int 242 0, .int 0 0, .ref 366] }),
  (128, { cls := .type "type", data := Data.cls { name := Str.ofString "TextIOBase", bases := [.ref 101], mro := [.ref 128, .ref 101, .type "object"], ns := 127, qualname := Str.ofString "TextIOBase", subclasses := [.ref 605] }, slots := #[some (.ref 119), none, some (sV "TextIOBase" 406), some (sV "TextIOBase" 414), some .none, some (.bool true)] }),
  (361, tO [.ref 128]),
  (362, { cls := .type "builtin_function_or_method", data := Data.fields #[.builtin "type.__prepare__", .type "type"] }),
  (363, { cls := .type "dict", data := Data.dict #[kE P "__module__" 693 (sV "_io" 698), kE P "__qualname__" 695 (sV "StringIO" 694), kE P "__firstlineno__" 697 (.int 242 696), kE P "__init__" 710 (.ref 375), kE P "_StringIO__translated" 719 (.ref 382), kE P "_StringIO__check" 726 (.ref 389), kE P "_StringIO__check_dot" 733 (.ref 396), kE P "_StringIO__line" 748 (.ref 403), kE P "closed" 756 (.ref 411), kE P "line_buffering" 764 (.ref 419), kE P "newlines" 772 (.ref 427), kE P "encoding" 780 (.ref 435), kE P "errors" 788 (.ref 443), kE P "close" 795 (.ref 450), kE P "__enter__" 802 (.ref 457), kE P "__exit__" 810 (.ref 464), kE P "readable" 817 (.ref 471), kE P "writable" 824 (.ref 478), kE P "seekable" 831 (.ref 485), kE P "isatty" 838 (.ref 492), kE P "flush" 845 (.ref 499), kE P "fileno" 852 (.ref 506), kE P "detach" 859 (.ref 513), kE P "getvalue" 866 (.ref 520), kE P "tell" 873 (.ref 527), kE P "seek" 883 (.ref 535), kE P "truncate" 891 (.ref 543), kE P "read" 903 (.ref 551), kE P "readline" 913 (.ref 559), kE P "readlines" 923 (.ref 567), kE P "__iter__" 930 (.ref 574), kE P "__next__" 938 (.ref 581), kE P "write" 950 (.ref 588), kE P "writelines" 958 (.ref 595), kE P "__repr__" 965 (.ref 602), kE P "__static_attributes__" 969 (.ref 603)] 36 }),
  (364, tO []),
  (365, { cls := .none, data := Data.fields #[.int 245 0, .int 4 0, .ref 374, .int 258 0, .int 4 0, .ref 381, .int 266 0, .int 4 0, .ref 388, .int 270 0, .int 4 0, .ref 395, .int 274 0, .int 4 0, .ref 402, .int 307 0, .int 4 0, .ref 409, .int 311 0, .int 4 0, .ref 417, .int 315 0, .int 4 0, .ref 425, .int 319 0, .int 4 0, .ref 433, .int 323 0, .int 4 0, .ref 441, .int 326 0, .int 4 0, .ref 449, .int 329 0, .int 4 0, .ref 456, .int 333 0, .int 4 0, .ref 463, .int 336 0, .int 4 0, .ref 470, .int 340 0, .int 4 0, .ref 477, .int 344 0, .int 4 0, .ref 484, .int 348 0, .int 4 0, .ref 491, .int 352 0, .int 4 0, .ref 498, .int 355 0, .int 4 0, .ref 505, .int 358 0, .int 4 0, .ref 512, .int 361 0, .int 4 0, .ref 519, .int 364 0, .int 4 0, .ref 526, .int 368 0, .int 4 0, .ref 534, .int 385 0, .int 4 0, .ref 542, .int 388 0, .int 4 0, .ref 550, .int 402 0, .int 4 0, .ref 558, .int 409 0, .int 4 0, .ref 566, .int 412 0, .int 4 0, .ref 573, .int 416 0, .int 4 0, .ref 580, .int 423 0, .int 4 0, .ref 587, .int 442 0, .int 4 0, .ref 594, .int 445 0, .int 4 0, .ref 601] }),
  (366, { cls := .type "code", data := Data.fields #[sV "StringIO" 688, sV "StringIO" 689, sV "/claim/cut.py" 690, .int 242 0, .int 0 0, .int 0 0, .int 0 0, .int 0 0, .ref 364, .bool false, .int 273 0, .ref 365, .none, .none, .none, .none, .int 691 0, .int 242 0, sV "/claim/cut.py" 692] }),
  (367, { cls := .type "frame", slots := #[some (.ref 366), some (.ref 3), some (.ref 363), none, some (sV "io" 316), none, some (.ref 0)] }),
  (368, tO [sV "" 700, sV "\n" 701]),
  (369, tO []),
  (370, { cls := .none, data := Data.fields #[] }),
  (371, tO [sV "self" 705, sV "initial_value" 706, sV "newline" 707]),
  (372, tO []),
  (373, pO (mA 13 1) "__init__" "StringIO.__init__"),
  (374, cO "__init__" 702 "StringIO.__init__" 703 704 245 3 0 0 3 369 true 273 370 371 372 373 708 245 709),
  (375, fO (mA 13 1) "__init__" "StringIO.__init__" (.ref 368) (.none) "io" 316 374),
  (376, tO []),
  (377, { cls := .none, data := Data.fields #[] }),
  (378, tO [sV "self" 714, sV "s" 715, sV "newline" 716]),
  (379, tO []),
  (380, pO (mA 13 2) "__translated" "StringIO.__translated"),
  (381, cO "__translated" 711 "StringIO.__translated" 712 713 258 2 0 0 3 376 true 273 377 378 379 380 717 258 718),
  (382, fO (mA 13 2) "__translated" "StringIO.__translated" (.none) (.none) "io" 316 381),
  (383, tO []),
  (384, { cls := .none, data := Data.fields #[] }),
  (385, tO [sV "self" 723]),
  (386, tO []),
  (387, pO (mA 13 3) "__check" "StringIO.__check"),
  (388, cO "__check" 720 "StringIO.__check" 721 722 266 1 0 0 3 383 true 273 384 385 386 387 724 266 725),
  (389, fO (mA 13 3) "__check" "StringIO.__check" (.none) (.none) "io" 316 388),
  (390, tO []),
  (391, { cls := .none, data := Data.fields #[] }),
  (392, tO [sV "self" 730]),
  (393, tO []),
  (394, pO (mA 13 4) "__check_dot" "StringIO.__check_dot"),
  (395, cO "__check_dot" 727 "StringIO.__check_dot" 728 729 270 1 0 0 3 390 true 273 391 392 393 394 731 270 732),
  (396, fO (mA 13 4) "__check_dot" "StringIO.__check_dot" (.none) (.none) "io" 316 395),
  (397, tO []),
  (398, { cls := .none, data := Data.fields #[] }),
  (399, tO [sV "self" 737, sV "limit" 738, sV "start" 739, sV "stop" 740, sV "cut" 741, sV "newline" 742, sV "i" 743, sV "j" 744, sV "end" 745]),
  (400, tO []),
  (401, pO (mA 13 5) "__line" "StringIO.__line"),
  (402, cO "__line" 734 "StringIO.__line" 735 736 274 2 0 0 3 397 true 273 398 399 400 401 746 274 747),
  (403, fO (mA 13 5) "__line" "StringIO.__line" (.none) (.none) "io" 316 402),
  (404, tO []),
  (405, { cls := .none, data := Data.fields #[] }),
  (406, tO [sV "self" 752]),
  (407, tO []),
  (408, pO (mA 13 6) "closed" "StringIO.closed"),
  (409, cO "closed" 749 "StringIO.closed" 750 751 306 1 0 0 3 404 true 273 405 406 407 408 753 306 754),
  (410, fO (mA 13 6) "closed" "StringIO.closed" (.none) (.none) "io" 316 409),
  (411, { cls := .type "property", data := Data.fields #[.ref 410, .none, .none, .none, sV "closed" 756, .bool false] }),
  (412, tO []),
  (413, { cls := .none, data := Data.fields #[] }),
  (414, tO [sV "self" 760]),
  (415, tO []),
  (416, pO (mA 13 7) "line_buffering" "StringIO.line_buffering"),
  (417, cO "line_buffering" 757 "StringIO.line_buffering" 758 759 310 1 0 0 3 412 true 273 413 414 415 416 761 310 762),
  (418, fO (mA 13 7) "line_buffering" "StringIO.line_buffering" (.none) (.none) "io" 316 417),
  (419, { cls := .type "property", data := Data.fields #[.ref 418, .none, .none, .none, sV "line_buffering" 764, .bool false] }),
  (420, tO []),
  (421, { cls := .none, data := Data.fields #[] }),
  (422, tO [sV "self" 768]),
  (423, tO []),
  (424, pO (mA 13 8) "newlines" "StringIO.newlines"),
  (425, cO "newlines" 765 "StringIO.newlines" 766 767 314 1 0 0 3 420 true 273 421 422 423 424 769 314 770),
  (426, fO (mA 13 8) "newlines" "StringIO.newlines" (.none) (.none) "io" 316 425),
  (427, { cls := .type "property", data := Data.fields #[.ref 426, .none, .none, .none, sV "newlines" 772, .bool false] }),
  (428, tO []),
  (429, { cls := .none, data := Data.fields #[] }),
  (430, tO [sV "self" 776]),
  (431, tO []),
  (432, pO (mA 13 9) "encoding" "StringIO.encoding"),
  (433, cO "encoding" 773 "StringIO.encoding" 774 775 318 1 0 0 3 428 true 273 429 430 431 432 777 318 778),
  (434, fO (mA 13 9) "encoding" "StringIO.encoding" (.none) (.none) "io" 316 433),
  (435, { cls := .type "property", data := Data.fields #[.ref 434, .none, .none, .none, sV "encoding" 780, .bool false] }),
  (436, tO []),
  (437, { cls := .none, data := Data.fields #[] }),
  (438, tO [sV "self" 784]),
  (439, tO []),
  (440, pO (mA 13 10) "errors" "StringIO.errors"),
  (441, cO "errors" 781 "StringIO.errors" 782 783 322 1 0 0 3 436 true 273 437 438 439 440 785 322 786),
  (442, fO (mA 13 10) "errors" "StringIO.errors" (.none) (.none) "io" 316 441),
  (443, { cls := .type "property", data := Data.fields #[.ref 442, .none, .none, .none, sV "errors" 788, .bool false] }),
  (444, tO []),
  (445, { cls := .none, data := Data.fields #[] }),
  (446, tO [sV "self" 792]),
  (447, tO []),
  (448, pO (mA 13 11) "close" "StringIO.close"),
  (449, cO "close" 789 "StringIO.close" 790 791 326 1 0 0 3 444 true 273 445 446 447 448 793 326 794),
  (450, fO (mA 13 11) "close" "StringIO.close" (.none) (.none) "io" 316 449),
  (451, tO []),
  (452, { cls := .none, data := Data.fields #[] }),
  (453, tO [sV "self" 799]),
  (454, tO []),
  (455, pO (mA 13 12) "__enter__" "StringIO.__enter__"),
  (456, cO "__enter__" 796 "StringIO.__enter__" 797 798 329 1 0 0 3 451 true 273 452 453 454 455 800 329 801),
  (457, fO (mA 13 12) "__enter__" "StringIO.__enter__" (.none) (.none) "io" 316 456),
  (458, tO []),
  (459, { cls := .none, data := Data.fields #[] }),
  (460, tO [sV "self" 806, sV "args" 807]),
  (461, tO []),
  (462, pO (mA 13 13) "__exit__" "StringIO.__exit__"),
  (463, cO "__exit__" 803 "StringIO.__exit__" 804 805 333 1 0 0 7 458 true 273 459 460 461 462 808 333 809),
  (464, fO (mA 13 13) "__exit__" "StringIO.__exit__" (.none) (.none) "io" 316 463),
  (465, tO []),
  (466, { cls := .none, data := Data.fields #[] }),
  (467, tO [sV "self" 814]),
  (468, tO []),
  (469, pO (mA 13 14) "readable" "StringIO.readable"),
  (470, cO "readable" 811 "StringIO.readable" 812 813 336 1 0 0 3 465 true 273 466 467 468 469 815 336 816),
  (471, fO (mA 13 14) "readable" "StringIO.readable" (.none) (.none) "io" 316 470),
  (472, tO []),
  (473, { cls := .none, data := Data.fields #[] }),
  (474, tO [sV "self" 821]),
  (475, tO []),
  (476, pO (mA 13 15) "writable" "StringIO.writable"),
  (477, cO "writable" 818 "StringIO.writable" 819 820 340 1 0 0 3 472 true 273 473 474 475 476 822 340 823),
  (478, fO (mA 13 15) "writable" "StringIO.writable" (.none) (.none) "io" 316 477),
  (479, tO []),
  (480, { cls := .none, data := Data.fields #[] }),
  (481, tO [sV "self" 828]),
  (482, tO []),
  (483, pO (mA 13 16) "seekable" "StringIO.seekable"),
  (484, cO "seekable" 825 "StringIO.seekable" 826 827 344 1 0 0 3 479 true 273 480 481 482 483 829 344 830),
  (485, fO (mA 13 16) "seekable" "StringIO.seekable" (.none) (.none) "io" 316 484),
  (486, tO []),
  (487, { cls := .none, data := Data.fields #[] }),
  (488, tO [sV "self" 835]),
  (489, tO []),
  (490, pO (mA 13 17) "isatty" "StringIO.isatty"),
  (491, cO "isatty" 832 "StringIO.isatty" 833 834 348 1 0 0 3 486 true 273 487 488 489 490 836 348 837),
  (492, fO (mA 13 17) "isatty" "StringIO.isatty" (.none) (.none) "io" 316 491),
  (493, tO []),
  (494, { cls := .none, data := Data.fields #[] }),
  (495, tO [sV "self" 842]),
  (496, tO []),
  (497, pO (mA 13 18) "flush" "StringIO.flush"),
  (498, cO "flush" 839 "StringIO.flush" 840 841 352 1 0 0 3 493 true 273 494 495 496 497 843 352 844),
  (499, fO (mA 13 18) "flush" "StringIO.flush" (.none) (.none) "io" 316 498),
  (500, tO []),
  (501, { cls := .none, data := Data.fields #[] }),
  (502, tO [sV "self" 849]),
  (503, tO []),
  (504, pO (mA 13 19) "fileno" "StringIO.fileno"),
  (505, cO "fileno" 846 "StringIO.fileno" 847 848 355 1 0 0 3 500 true 273 501 502 503 504 850 355 851),
  (506, fO (mA 13 19) "fileno" "StringIO.fileno" (.none) (.none) "io" 316 505),
  (507, tO []),
  (508, { cls := .none, data := Data.fields #[] }),
  (509, tO [sV "self" 856]),
  (510, tO []),
  (511, pO (mA 13 20) "detach" "StringIO.detach"),
  (512, cO "detach" 853 "StringIO.detach" 854 855 358 1 0 0 3 507 true 273 508 509 510 511 857 358 858),
  (513, fO (mA 13 20) "detach" "StringIO.detach" (.none) (.none) "io" 316 512),
  (514, tO []),
  (515, { cls := .none, data := Data.fields #[] }),
  (516, tO [sV "self" 863]),
  (517, tO []),
  (518, pO (mA 13 21) "getvalue" "StringIO.getvalue"),
  (519, cO "getvalue" 860 "StringIO.getvalue" 861 862 361 1 0 0 3 514 true 273 515 516 517 518 864 361 865),
  (520, fO (mA 13 21) "getvalue" "StringIO.getvalue" (.none) (.none) "io" 316 519),
  (521, tO []),
  (522, { cls := .none, data := Data.fields #[] }),
  (523, tO [sV "self" 870]),
  (524, tO []),
  (525, pO (mA 13 22) "tell" "StringIO.tell"),
  (526, cO "tell" 867 "StringIO.tell" 868 869 364 1 0 0 3 521 true 273 522 523 524 525 871 364 872),
  (527, fO (mA 13 22) "tell" "StringIO.tell" (.none) (.none) "io" 316 526),
  (528, tO [.int 0 874]),
  (529, tO []),
  (530, { cls := .none, data := Data.fields #[] }),
  (531, tO [sV "self" 878, sV "pos" 879, sV "whence" 880]),
  (532, tO []),
  (533, pO (mA 13 23) "seek" "StringIO.seek"),
  (534, cO "seek" 875 "StringIO.seek" 876 877 368 3 3 0 3 529 true 273 530 531 532 533 881 368 882),
  (535, fO (mA 13 23) "seek" "StringIO.seek" (.ref 528) (.none) "io" 316 534),
  (536, tO [.none]),
  (537, tO []),
  (538, { cls := .none, data := Data.fields #[] }),
  (539, tO [sV "self" 887, sV "pos" 888]),
  (540, tO []),
  (541, pO (mA 13 24) "truncate" "StringIO.truncate"),
  (542, cO "truncate" 884 "StringIO.truncate" 885 886 385 2 2 0 3 537 true 273 538 539 540 541 889 385 890),
  (543, fO (mA 13 24) "truncate" "StringIO.truncate" (.ref 536) (.none) "io" 316 542),
  (544, tO [.int (-1) 893]),
  (545, tO []),
  (546, { cls := .none, data := Data.fields #[] }),
  (547, tO [sV "self" 897, sV "size" 898, sV "start" 899, sV "stop" 900]),
  (548, tO []),
  (549, pO (mA 13 25) "read" "StringIO.read"),
  (550, cO "read" 894 "StringIO.read" 895 896 388 2 2 0 3 545 true 273 546 547 548 549 901 388 902),
  (551, fO (mA 13 25) "read" "StringIO.read" (.ref 544) (.none) "io" 316 550),
  (552, tO [.int (-1) 905]),
  (553, tO []),
  (554, { cls := .none, data := Data.fields #[] }),
  (555, tO [sV "self" 909, sV "size" 910]),
  (556, tO []),
  (557, pO (mA 13 26) "readline" "StringIO.readline"),
  (558, cO "readline" 906 "StringIO.readline" 907 908 402 2 2 0 3 553 true 273 554 555 556 557 911 402 912),
  (559, fO (mA 13 26) "readline" "StringIO.readline" (.ref 552) (.none) "io" 316 558),
  (560, tO [.int (-1) 915]),
  (561, tO []),
  (562, { cls := .none, data := Data.fields #[] }),
  (563, tO [sV "self" 919, sV "hint" 920]),
  (564, tO []),
  (565, pO (mA 13 27) "readlines" "StringIO.readlines"),
  (566, cO "readlines" 916 "StringIO.readlines" 917 918 409 2 2 0 3 561 true 273 562 563 564 565 921 409 922),
  (567, fO (mA 13 27) "readlines" "StringIO.readlines" (.ref 560) (.none) "io" 316 566),
  (568, tO []),
  (569, { cls := .none, data := Data.fields #[] }),
  (570, tO [sV "self" 927]),
  (571, tO []),
  (572, pO (mA 13 28) "__iter__" "StringIO.__iter__"),
  (573, cO "__iter__" 924 "StringIO.__iter__" 925 926 412 1 0 0 3 568 true 273 569 570 571 572 928 412 929),
  (574, fO (mA 13 28) "__iter__" "StringIO.__iter__" (.none) (.none) "io" 316 573),
  (575, tO []),
  (576, { cls := .none, data := Data.fields #[] }),
  (577, tO [sV "self" 934, sV "line" 935]),
  (578, tO []),
  (579, pO (mA 13 29) "__next__" "StringIO.__next__"),
  (580, cO "__next__" 931 "StringIO.__next__" 932 933 416 1 0 0 3 575 true 273 576 577 578 579 936 416 937),
  (581, fO (mA 13 29) "__next__" "StringIO.__next__" (.none) (.none) "io" 316 580),
  (582, tO []),
  (583, { cls := .none, data := Data.fields #[] }),
  (584, tO [sV "self" 942, sV "s" 943, sV "n" 944, sV "m" 945, sV "start" 946, sV "buf" 947]),
  (585, tO []),
  (586, pO (mA 13 30) "write" "StringIO.write"),
  (587, cO "write" 939 "StringIO.write" 940 941 423 2 2 0 3 582 true 273 583 584 585 586 948 423 949),
  (588, fO (mA 13 30) "write" "StringIO.write" (.none) (.none) "io" 316 587),
  (589, tO []),
  (590, { cls := .none, data := Data.fields #[] }),
  (591, tO [sV "self" 954, sV "lines" 955]),
  (592, tO []),
  (593, pO (mA 13 31) "writelines" "StringIO.writelines"),
  (594, cO "writelines" 951 "StringIO.writelines" 952 953 442 2 2 0 3 589 true 273 590 591 592 593 956 442 957),
  (595, fO (mA 13 31) "writelines" "StringIO.writelines" (.none) (.none) "io" 316 594),
  (596, tO []),
  (597, { cls := .none, data := Data.fields #[] }),
  (598, tO [sV "self" 962]),
  (599, tO []),
  (600, pO (mA 13 32) "__repr__" "StringIO.__repr__"),
  (601, cO "__repr__" 959 "StringIO.__repr__" 960 961 445 1 0 0 3 596 true 273 597 598 599 600 963 445 964),
  (602, fO (mA 13 32) "__repr__" "StringIO.__repr__" (.none) (.none) "io" 316 601),
  (603, tO [sV "__buf" 966, sV "__newline" 967, sV "__pos" 968]),
  (604, { cls := .type "dict", data := Data.dict #[kE P "__module__" 693 (sV "_io" 698), kE P "__firstlineno__" 697 (.int 242 696), kE P "__init__" 710 (.ref 375), kE P "_StringIO__translated" 719 (.ref 382), kE P "_StringIO__check" 726 (.ref 389), kE P "_StringIO__check_dot" 733 (.ref 396), kE P "_StringIO__line" 748 (.ref 403), kE P "closed" 756 (.ref 411), kE P "line_buffering" 764 (.ref 419), kE P "newlines" 772 (.ref 427), kE P "encoding" 780 (.ref 435), kE P "errors" 788 (.ref 443), kE P "close" 795 (.ref 450), kE P "__enter__" 802 (.ref 457), kE P "__exit__" 810 (.ref 464), kE P "readable" 817 (.ref 471), kE P "writable" 824 (.ref 478), kE P "seekable" 831 (.ref 485), kE P "isatty" 838 (.ref 492), kE P "flush" 845 (.ref 499), kE P "fileno" 852 (.ref 506), kE P "detach" 859 (.ref 513), kE P "getvalue" 866 (.ref 520), kE P "tell" 873 (.ref 527), kE P "seek" 883 (.ref 535), kE P "truncate" 891 (.ref 543), kE P "read" 903 (.ref 551), kE P "readline" 913 (.ref 559), kE P "readlines" 923 (.ref 567), kE P "__iter__" 930 (.ref 574), kE P "__next__" 938 (.ref 581), kE P "write" 950 (.ref 588), kE P "writelines" 958 (.ref 595), kE P "__repr__" 965 (.ref 602), kE P "__static_attributes__" 969 (.ref 603), kE P "__doc__" 970 .none] 2 }),
  (605, { cls := .type "type", data := Data.cls { name := Str.ofString "StringIO", bases := [.ref 128], mro := [.ref 605, .ref 128, .ref 101, .type "object"], ns := 604, qualname := Str.ofString "StringIO" }, slots := #[some (.ref 361), none, some (sV "StringIO" 686), some (sV "StringIO" 694), some .none, some (.bool true)] }),
  (606, { cls := .type "super", data := Data.fields #[.ref 605, .ref 605, .ref 605] }),
  (607, { cls := .type "builtin_function_or_method", data := Data.fields #[.builtin "object.__init_subclass__", .ref 605] })]
end Mine
end -- ST
section -- SEG
set_option maxRecDepth 100000
set_option maxHeartbeats 4000000
namespace Mine
/-! the top, run in four parts; the heap at each cut as a list of objects -/
noncomputable def mergeL (l : List Obj) : Nat → Objs0 → List Obj := @List.rec Obj (fun _ => Nat → Objs0 → List Obj) (fun _ d => d.map (·.2)) (fun o _ ih i d => match d with
  | [] => o :: ih (i + 1) []
  | x :: d' => match Nat.beq x.1 i with
    | true => x.2 :: ih (i + 1) d'
    | false => o :: ih (i + 1) (x :: d')) l
/-- behind the opening -/
noncomputable def oRun (w : World) : Option Shared := (impT (opening PW) w 3000 (s0T (opening PW)) (qStart (opening PW)).2).bind fun s => fenceModules? PW s.abs
/-- two objects there hold long packed texts that nothing asks for: they stay as they come -/
noncomputable def gO (w : World) (a : Nat) : Obj := match oRun w with
  | some s => (s.heap.objs.toList[a]?).getD default
  | none => default
noncomputable def l0 (w : World) : List Obj := mergeL [] 0 (d_s0 w.params (gO w 19) (gO w 28))
noncomputable def lb (w : World) : List Obj := mergeL (l0 w) 0 (d_sb w.params)
noncomputable def l10 (w : World) : List Obj := mergeL (lb w) 0 (d_s10 w.params)
noncomputable def l11 (w : World) : List Obj := mergeL (l10 w) 0 (d_s11 w.params)
noncomputable def l12 (w : World) : List Obj := mergeL (l11 w) 0 (d_s12 w.params)
noncomputable def os0 : OsState := (start (opening PW)).1.os
/-- a state with these objects, as a heap and as a tree -/
noncomputable def hS (l : List Obj) (t : Nat) : Shared := ⟨⟨l.toArray, {}⟩, #[], {}, t, os0⟩
noncomputable def tS (l : List Obj) (n t : Nat) : SharedT := ⟨(insAll l .nil 0).getD .nil, n, {}, #[], {}, t, os0⟩
theorem tS_abs {l : List Obj} {n t : Nat} (hn : l.length = n) (h : (insAll l .nil 0).isSome = true) : (tS l n t).abs = hS l t := by
  obtain ⟨T, e⟩ := Option.isSome_iff_exists.mp h
  have := insAll_of (life := {}) _ _ _ _ e
  rw [Nat.zero_add, hn] at this
  unfold tS hS
  rw [e]
  show (⟨absHeap T n {}, #[], {}, t, os0⟩ : Shared) = _
  have e2 : absHeap T n {} = ⟨l.toArray, {}⟩ := by
    show (⟨(absHeap T n {}).objs, {}⟩ : Heap) = _
    rw [this]; simp [absHeap, BT.list]
  rw [e2]
noncomputable def viewT (s : SharedT) := (s.tree.list s.n, s.life, s.gens, s.drawn, s.toks, s.os)
theorem view_abs {s : SharedT} {l : List Obj} {t : Nat} (h : viewT s = (l, {}, #[], {}, t, os0)) : s.abs = hS l t := by
  obtain ⟨T, n, life, gens, drawn, toks, os⟩ := s
  cases h
  rfl
theorem seg_view {tb : String → Option Builtin} {p : Program} {w : World} {n₀ b n : Nat} {ann : Option Value} {s : SharedT} {t : Thread} {f : Flow} {l : List Obj} {k : Nat} {c : Code} {q : Pos}
    (h : (segRunT tb p w n₀ ann b n s t).map (fun r => (r.1, viewT r.2.1, r.2.2)) = some (f, (l, {}, #[], {}, k, os0), c, q)) : segRun tb p w n₀ ann b n s.abs t = some (f, hS l k, c, q) := by
  obtain ⟨⟨f', s', c', q'⟩, h1, h2⟩ := Option.map_eq_some_iff.mp h
  obtain ⟨e1, e2⟩ := Prod.mk.inj h2
  obtain ⟨e3, e4⟩ := Prod.mk.inj e2
  obtain ⟨e5, e6⟩ := Prod.mk.inj e4
  have e1 : f' = f := e1
  have e5 : c' = c := e5
  have e6 : q' = q := e6
  have e3 : viewT s' = _ := e3
  rw [segRun_of h1, view_abs e3, e1, e5, e6]
noncomputable def bE : List Stmt := behindTheImports PW
noncomputable def b11 : List Stmt := bE.drop 11
noncomputable def b12 : List Stmt := b11.drop 1
noncomputable def b13 : List Stmt := b12.drop 1
noncomputable def envP : Env := { scope := PW.main.scope, locals := mainNs, globals := mainNs, cells := [], code := .ref 31, frame := some 32 }
noncomputable def cE : Code := .body bE envP
abbrev q0 : Pos := ⟨0, 0, 0, 0⟩
abbrev p10 : Pos := ⟨70, 0, 71, 21⟩
abbrev p11 : Pos := ⟨72, 0, 241, 17⟩
abbrev p12 : Pos := ⟨242, 0, 446, 17⟩
abbrev p30 : Pos := ⟨837, 0, 845, 74⟩
abbrev an6 : Option Value := some (.ref 6)
noncomputable def listId (l : List Obj) : List Obj := @List.rec Obj (fun _ => List Obj) [] (fun o _ ih => o :: ih) l
theorem listId_eq : ∀ l : List Obj, listId l = l
  | [] => rfl
  | o :: l => congrArg (o :: ·) (listId_eq l)
noncomputable def viewS (s : Shared) := (listId s.heap.objs.toList, s.heap.life, s.gens, s.drawn, s.toks, s.os)
theorem viewS_eq {s : Shared} {l : List Obj} {t : Nat} (h : viewS s = (l, {}, #[], {}, t, os0)) : s = hS l t := by
  obtain ⟨⟨objs, life⟩, gens, drawn, toks, os⟩ := s
  unfold viewS at h
  rw [listId_eq] at h
  obtain ⟨e1, h⟩ := Prod.mk.inj h
  obtain ⟨e2, h⟩ := Prod.mk.inj h
  obtain ⟨e3, h⟩ := Prod.mk.inj h
  obtain ⟨e4, h⟩ := Prod.mk.inj h
  obtain ⟨e5, e6⟩ := Prod.mk.inj h
  dsimp only at e1 e2 e3 e4 e5 e6
  subst e1 e2 e3 e4 e5 e6
  rfl
theorem open_seg (w : World) : (oRun w).map viewS = some (l0 w, {}, #[], {}, 273, os0) := by kernel_rfl
theorem pre_seg (w : World) : topGo treeTable PW w 29 an6 12 (hS (l0 w) 273) (topStub PW) = some (hS (lb w) 279, ⟨denote treeTable cE, cE, q0, [topFrame q0]⟩) := by
  rw [PySem.W.Fast.te15667345088766844465, PySem.W.Fast.te14364793385576792824, PySem.W.Fast.te11892475500146522536]
  kernel_rfl
theorem block_seg (w : World) : segRun treeTable PW w 29 an6 1 1 (hS (lb w) 279) (blockOf bE envP cE q0 [topFrame q0]) = some (.next, hS (lb w) 279, cE, q0) := by kernel_rfl
theorem segA (w : World) : (segRunT treeTable PW w 29 an6 1 1100 (tS (lb w) 33 279) (piecesOf (bE.take 11) envP cE q0 [topFrame q0])).map (fun r => (r.1, viewT r.2.1, r.2.2)) = some (.next, (l10 w, {}, #[], {}, 424, os0), cE, p10) := by
  unfold piecesOf
  rw [PySem.W.Fast.te10110043849684766642, PySem.W.Fast.te14364793385576792824, PySem.W.Fast.te12563942051412417395]
  kernel_rfl
/-- what the law's text binds beside law itself -/
noncomputable def loL : List Str := ["deque", "_wall", "bisect_right", "bisect_left", "_whence", "_index", "UnsupportedOperation", "IOBase", "BufferedIOBase", "TextIOBase", "BytesIO", "StringIO", "_kind", "_fspath", "_check_arg_types", "isabs", "join", "dirname", "shlex", "split", "_law_text", "_law_read", "_law_closed", "_law_found", "_law_told", "_law_refused"].map Str.ofString
/-- the program, less all that stands ahead of law -/
noncomputable def QV : Program := { PW with main := { PW.main with body := PW.main.body.drop 31 } }
noncomputable abbrev hkH : Hook := kmHook kH kA kA_eq [773]
noncomputable def zS (s : SharedT) := (kSeen kA s, kSeen [773] s)
noncomputable def zA (w : World) : List (Bool × Option Obj) × List (Bool × Option Obj) := ((kH w.params).map fun p => (true, some p.2), [(true, some (tabObj #[]))])
theorem z_says (w : World) (s : SharedT) (h : zS s = zA w) : hkH.obs s.abs = hkH.val w := by
  obtain ⟨h1, h2⟩ := Prod.mk.inj h
  rw [kA_eq w.params] at h1
  refine Prod.ext ?_ ?_
  · show kA.map s.abs.heap.get? = (kH w.params).map fun p => some p.2
    rw [kA_eq w.params]
    exact kSeen_of (by kernel_rfl) h1
  · exact kSeen_of (K := [(773, tabObj #[])]) rfl h2
theorem segB (w : World) : (segRunT treeTable PW w 29 an6 1 1300 (tS (l10 w) 131 424) (piecesOf (b11.take 1) envP cE p10 [topFrame q0])).map (fun r => (r.1, viewT r.2.1, r.2.2)) = some (.next, (l11 w, {}, #[], {}, 686, os0), cE, p11) := by
  unfold piecesOf
  rw [PySem.W.Fast.te10110043849684766642, PySem.W.Fast.te14364793385576792824, PySem.W.Fast.te12563942051412417395]
  kernel_rfl
theorem segC (w : World) : (segRunT treeTable PW w 29 an6 1 1600 (tS (l11 w) 361 686) (piecesOf (b12.take 1) envP cE p11 [topFrame q0])).map (fun r => (r.1, viewT r.2.1, r.2.2)) = some (.next, (l12 w, {}, #[], {}, 973, os0), cE, p12) := by
  unfold piecesOf
  rw [PySem.W.Fast.te10110043849684766642, PySem.W.Fast.te14364793385576792824, PySem.W.Fast.te12563942051412417395]
  kernel_rfl
theorem lenB (w : World) : (lb w).length = 33 ∧ (insAll (lb w) .nil 0).isSome = true := ⟨by kernel_rfl, by kernel_rfl⟩
theorem len10 (w : World) : (l10 w).length = 131 ∧ (insAll (l10 w) .nil 0).isSome = true := ⟨by kernel_rfl, by kernel_rfl⟩
theorem len11 (w : World) : (l11 w).length = 361 ∧ (insAll (l11 w) .nil 0).isSome = true := ⟨by kernel_rfl, by kernel_rfl⟩
theorem len12 (w : World) : (l12 w).length = 608 ∧ (insAll (l12 w) .nil 0).isSome = true := ⟨by kernel_rfl, by kernel_rfl⟩
noncomputable def chk (l₀ : Heap) (s : SharedT) := (staticsOk (importedModules PW.main.body) l₀ s.abs.heap && namesBound PW s.abs.heap && gensDone s.abs && laidKept l₀ s.abs.heap, qSeen QV loL (importedModules PW.main.body) (fun _ => true) true s.abs, zS s)
theorem segD (w : World) : (segRunT treeTable PW w 29 an6 1 1300 (tS (l12 w) 608 973) (piecesOf b13 envP cE p12 [topFrame q0])).map (fun r => (r.1, chk (hS (l0 w) 273).heap r.2.1, r.2.2)) = some (.next, (true, openGood QV loL, zA w), cE, p30) := by
  unfold piecesOf
  rw [PySem.W.Fast.te10110043849684766642, PySem.W.Fast.te14364793385576792824, PySem.W.Fast.te12563942051412417395]
  kernel_rfl
theorem fin_seg (w : World) (s : Shared) : topRun treeTable PW w 29 an6 3 s ⟨doneF .next, cE, p30, [topFrame q0]⟩ = some s := by
  obtain ⟨heap, gens, drawn, toks, os⟩ := s
  kernel_rfl
theorem fence_eq (w : World) : fencedOpening treeTable PW w 6000 = some (hS (l0 w) 273) := by
  obtain ⟨s₀, h0, hv⟩ := Option.map_eq_some_iff.mp (open_seg w)
  rw [viewS_eq hv] at h0
  obtain ⟨s, h1, h2⟩ := Option.bind_eq_some_iff.mp h0
  have h1 := importEnds_mono 3000 _ _ _ _ (impT_of _ _ _ _ h1)
  rw [← qStart_eq, s0T_abs] at h1
  unfold fencedOpening
  rw [show (6000 : Nat) = 3000 + 3000 from rfl, h1]
  exact h2
theorem ns_ok (w : World) : ((hS (l0 w) 273).heap.isNs mainGlobals && (hS (l0 w) 273).gens.size == 0) = true := by kernel_rfl
theorem size_ok (w : World) : (hS (l0 w) 273).heap.objs.size = 29 := by kernel_rfl
theorem ann_ok (w : World) : (hS (l0 w) 273).heap.nsMap mainGlobals "__annotations__" = an6 := by kernel_rfl
theorem seg_from {tb : String → Option Builtin} {p : Program} {w : World} {n₀ b N n t₀ : Nat} {ann : Option Value} {l : List Obj} {s : SharedT} {t : Thread} {f : Flow} {c : Code} {q : Pos} (hl : l.length = n ∧ (insAll l .nil 0).isSome = true)
    (h : segRunT tb p w n₀ ann b N (tS l n t₀) t = some (f, s, c, q)) : segRun tb p w n₀ ann b N (hS l t₀) t = some (f, s.abs, c, q) := by
  rw [← tS_abs hl.1 hl.2]
  exact segRun_of h
theorem seg_step {tb : String → Option Builtin} {p : Program} {w : World} {n₀ b N n t₀ k : Nat} {ann : Option Value} {l l' : List Obj} {t : Thread} {f : Flow} {c : Code} {q : Pos} (hl : l.length = n ∧ (insAll l .nil 0).isSome = true)
    (h : (segRunT tb p w n₀ ann b N (tS l n t₀) t).map (fun r => (r.1, viewT r.2.1, r.2.2)) = some (f, (l', {}, #[], {}, k, os0), c, q)) : segRun tb p w n₀ ann b N (hS l t₀) t = some (f, hS l' k, c, q) := by
  rw [← tS_abs hl.1 hl.2]
  exact seg_view h
theorem seg_last {tb : String → Option Builtin} {p : Program} {w : World} {n₀ b N n t₀ : Nat} {ann : Option Value} {l : List Obj} {t : Thread} {f : Flow} {c : Code} {q : Pos} {α : Type} {g : SharedT → α} {x : α} (hl : l.length = n ∧ (insAll l .nil 0).isSome = true)
    (h : (segRunT tb p w n₀ ann b N (tS l n t₀) t).map (fun r => (r.1, g r.2.1, r.2.2)) = some (f, x, c, q)) : ∃ s : SharedT, g s = x ∧ segRun tb p w n₀ ann b N (hS l t₀) t = some (f, s.abs, c, q) := by
  obtain ⟨⟨f', s, c', q'⟩, h1, h2⟩ := Option.map_eq_some_iff.mp h
  obtain ⟨e1, e2⟩ := Prod.mk.inj h2
  obtain ⟨e3, e4⟩ := Prod.mk.inj e2
  obtain ⟨e5, e6⟩ := Prod.mk.inj e4
  have e1 : f' = f := e1
  have e5 : c' = c := e5
  have e6 : q' = q := e6
  have e3 : g s = x := e3
  rw [e1, e5, e6] at h1
  exact ⟨s, e3, seg_from hl h1⟩
theorem take_rest (n : Nat) (l r : List Stmt) (h : l.drop n = r) : l.take n ++ r = l := by rw [← h]; exact List.take_append_drop n l
theorem join_top {tb : String → Option Builtin} {p : Program} {w : World} {n₀ : Nat} {ann : Option Value} {env : Env} {q : Pos} {s₀ sb sa s1 s2 s3 s4 : Shared} {c : Code} {p0 pa pb pc pd : Pos} {t : Thread} {B Ba Bb Bc : List Stmt} (hc : c = .body B env)
    (ha : B.drop 11 = Ba) (hb : Ba.drop 1 = Bb) (hd : Bb.drop 1 = Bc)
    (h0 : topGo tb p w n₀ ann 12 s₀ t = some (sb, ⟨denote tb c, c, p0, [topFrame q]⟩))
    (h1 : segRun tb p w n₀ ann 1 1 sb (blockOf B env c p0 [topFrame q]) = some (.next, sa, c, pa))
    (h2 : segRun tb p w n₀ ann 1 1100 sa (piecesOf (B.take 11) env c pa [topFrame q]) = some (.next, s1, c, pb))
    (h3 : segRun tb p w n₀ ann 1 1300 s1 (piecesOf (Ba.take 1) env c pb [topFrame q]) = some (.next, s2, c, pc))
    (h4 : segRun tb p w n₀ ann 1 1600 s2 (piecesOf (Bb.take 1) env c pc [topFrame q]) = some (.next, s3, c, pd))
    {pe : Pos} (h5 : segRun tb p w n₀ ann 1 1300 s3 (piecesOf Bc env c pd [topFrame q]) = some (.next, s4, c, pe))
    (h6 : topRun tb p w n₀ ann 3 s4 ⟨doneF .next, c, pe, [topFrame q]⟩ = some s4) : topRun tb p w n₀ ann 6000 s₀ t = some s4 := by
  have k5 := piece_app h5 (piece_nil (env := env) h6)
  rw [List.append_nil] at k5
  have k4 := piece_app h4 k5
  rw [take_rest _ _ _ hd] at k4
  have k3 := piece_app h3 k4
  rw [take_rest _ _ _ hb] at k3
  have k2 := piece_app h2 k3
  rw [take_rest _ _ _ ha] at k2
  have k1 := piece_block h1 k2
  rw [← hc] at k1
  exact topRun_mono 684 5316 _ _ _ (go_top h0 k1)
theorem topFrom_of {p : Program} {w : World} {N n₀ : Nat} {ann : Option Value} {s₀ s₁ : Shared} (h1 : (s₀.heap.isNs mainGlobals && s₀.gens.size == 0) = true) (h2 : s₀.heap.objs.size = n₀) (h3 : s₀.heap.nsMap mainGlobals "__annotations__" = ann)
    (h4 : topRun treeTable p w n₀ ann N s₀ (topStub p) = some s₁) (h5 : (staticsOk (importedModules p.main.body) s₀.heap s₁.heap && namesBound p s₁.heap && gensDone s₁ && laidKept s₀.heap s₁.heap) = true) : topFrom treeTable p w N s₀ = some s₁ := by
  subst h2 h3
  unfold topFrom
  rw [h1]
  dsimp only
  rw [h4]
  show (match staticsOk (importedModules p.main.body) s₀.heap s₁.heap && namesBound p s₁.heap && gensDone s₁ && laidKept s₀.heap s₁.heap with | true => some s₁ | false => none) = _
  rw [h5]
theorem openEnds_of {p : Program} {w : World} {N : Nat} {s₀ s₁ : Shared} (h1 : fencedOpening treeTable p w N = some s₀) (h2 : topFrom treeTable p w N s₀ = some s₁) : openEnds treeTable p w N = some s₁ := by
  unfold openEnds
  rw [h1]
  exact h2
theorem left_one {p q : Program} {loose : List Str} {Xt : Shared → Bool} {α β : Type} {Yf : Shared → α} {Ya : World → α} {Zf : SharedT → β} {Za : World → β} {N : Nat} {w : World} {l₀ : Heap} {s : SharedT} (k : ∀ w s, Zf s = Za w → Yf s.abs = Ya w) (h : openEnds treeTable p w N = some s.abs)
    (e : (staticsOk (importedModules p.main.body) l₀ s.abs.heap && namesBound p s.abs.heap && gensDone s.abs && laidKept l₀ s.abs.heap, qSeen q loose (importedModules p.main.body) Xt true s.abs, Zf s) = (true, openGood q loose, Za w)) :
    (openEnds treeTable p w N).map (fun s => (openSeen q loose (importedModules p.main.body) Xt true s, Yf s)) = some (openGood q loose, Ya w) := by
  obtain ⟨_, e⟩ := Prod.mk.inj e
  obtain ⟨e2, e3⟩ := Prod.mk.inj e
  rw [h, qSeen_eq]
  exact congrArg some (Prod.ext e2 (k w s e3))
theorem top_ends (w : World) : ∃ s : SharedT, chk (hS (l0 w) 273).heap s = (true, openGood QV loL, zA w) ∧ topRun treeTable PW w 29 an6 6000 (hS (l0 w) 273) (topStub PW) = some s.abs := by
  obtain ⟨s, e, hD⟩ := seg_last (len12 w) (segD w)
  exact ⟨s, e, join_top (B := bE) (env := envP) rfl rfl rfl rfl (pre_seg w) (block_seg w) (seg_step (lenB w) (segA w)) (seg_step (len10 w) (segB w)) (seg_step (len11 w) (segC w)) hD (fin_seg w s.abs)⟩
theorem left_law : LeftO PW QV loL (fun _ => true) hkH.obs hkH.val 6000 := fun w => by
  obtain ⟨s, e, h⟩ := top_ends w
  have e1 := (Prod.mk.inj e).1
  exact left_one (l₀ := (hS (l0 w) 273).heap) z_says (openEnds_of (fence_eq w) (topFrom_of (ns_ok w) (size_ok w) (ann_ok w) h e1)) e
end Mine
end -- SEG
section -- HD2
set_option maxRecDepth 100000
set_option maxHeartbeats 8000000
namespace Mine
noncomputable def dK : DefRec × List (Str × Expr) := (defOf QV (Str.ofString "law")).getD (⟨default, default, [], default, default⟩, [])
noncomputable abbrev RWo : OpenRow := PySem.Challenge.rw_mr0351_01.row
noncomputable abbrev bodyP : List Stmt := PW.main.body
theorem lk1 : sreFenced PW.main = true := by rw [PySem.W.Fast.te11788848310118352699]; kernel_rfl
theorem lk2 : ((moduleNames bodyP).isEmpty || lookedIntoSs (moduleNames bodyP) bodyP) = true := by rw [PySem.W.Fast.te12862048085361865435, PySem.W.Fast.te9807087744658564304]; kernel_rfl
theorem lk3 : namesResolve PW = true := by rw [PySem.W.Fast.te8377067652309620493]; kernel_rfl
theorem lk4 : PW.boundNames.all (fun n => !worldNames.contains n) = true := by rw [PySem.W.Fast.te18344453789297297638]; kernel_rfl
theorem lk5 : namesMeet PW bodyP (fun _ n => attrL n) = true := by rw [PySem.W.Fast.te17119622794617984870]; kernel_rfl
theorem ro1 : readsOut PW bodyP "vars" = false := by rw [PySem.W.Fast.te13343964577679436407]; kernel_rfl
theorem ro2 : readsOut PW bodyP "dir" = false := by rw [PySem.W.Fast.te13343964577679436407]; kernel_rfl
theorem ro3 : readsOut PW bodyP "locals" = false := by rw [PySem.W.Fast.te13343964577679436407]; kernel_rfl
theorem bare_law : (["vars", "dir", "locals"] : List Str).filter (readsOut PW bodyP) = [] := by
  simp only [List.filter, ro1, ro2, ro3]
theorem lk6 : noRoadLSs { strict := !(importedModules bodyP).all cThrough.contains, foot := none, bare := [] } bodyP = true := by rw [PySem.W.Fast.te8326940854005059898]; kernel_rfl
theorem looks_law : looksOpen PW = true := by
  unfold looksOpen
  rw [lk1, lk2, lk3, lk4, bare_law, lk6, lk5]; rfl
theorem part_law : RWo.partSaid = true := by
  unfold OpenRow.partSaid
  rw [show looksOpen RWo.prog = true from looks_law]
  kernel_rfl
theorem row_law : RWo.wellSaid = true := by
  unfold OpenRow.wellSaid
  rw [part_law]
  kernel_rfl
theorem said_law : PySem.Challenge.rw_mr0351_01.wellSaid = true := by
  unfold OpenLaw.wellSaid
  rw [row_law]
  kernel_rfl
theorem opens_law : opensWell PW = true := by
  have b1 : bearImports (behindTheImports PW) = false := by kernel_rfl
  have b2 : (opening PW).tameTopW = true := by kernel_rfl
  unfold opensWell
  rw [b1, b2]; rfl
theorem ok_law : (chainsOk QV && opensWell PW && (frees PySem.Challenge.rw_mr0351_01.row.toRowW && PySem.Challenge.rw_mr0351_01.row.toRowW.within.isEmpty)) = true := by
  have b3 : chainsOk QV = true := by kernel_rfl
  have b4 : (frees PySem.Challenge.rw_mr0351_01.row.toRowW && PySem.Challenge.rw_mr0351_01.row.toRowW.within.isEmpty) = true := by kernel_rfl
  rw [b3, opens_law, b4]; rfl
theorem def_law : defOf QV RWo.toRowW.name = some (dK.1, dK.2) := by kernel_rfl
theorem the_law : RWo.toRowW.prog.theDef RWo.toRowW.name = some (dK.1.params, dK.1.body, dK.1.scope) := by kernel_rfl
theorem kw_law : kwWritten? dK.1.params.kwonlyargs dK.1.params.kw_defaults = some dK.2 := by kernel_rfl
theorem wr_law : (!RWo.writes || RWo.toRowW.records.isEmpty) = true := by kernel_rfl
theorem bareP_law : RWo.toRowW.prog.bare := ⟨rfl, rfl, rfl, rfl, rfl, by decide +kernel⟩
theorem prom_law : PySem.Challenge.rw_mr0351_01.row.toRowW.promised := by w_witness2
theorem head (call : WalkO QV loL (fun _ _ => True) hkH.says PySem.Challenge.rw_mr0351_01.row.toRowW dK.1 dK.2 fun f vs => PySem.call f vs) : PySem.Challenge.rw_mr0351_01.Holds :=
  holds_law said_law fun said => holds_open (q := QV) (loose := loL) (Xt := fun _ => true) (XP := fun _ _ => True) (Yf := hkH.obs) (Ya := hkH.val) (YP := hkH.says) (N := 6000) (d := dK.1) (kwd := dK.2) left_law hkH.of hkH.keeps (fun _ _ => trivial) (fun _ _ _ _ _ => trivial) def_law the_law kw_law (fun s _ => recFacts_nil rfl) wr_law said ok_law bareP_law prom_law call
end Mine
end -- HD2
section -- B1
set_option maxRecDepth 100000
namespace Mine

/-- a value, its token forgotten -/
inductive MV where
  | none
  | bool (b : Bool)
  | int (i : Int)
  | str (l : List Nat)
  | val (v : Value)

noncomputable def Sim (v : Value) : MV → Prop
  | .none => v = .none
  | .bool b => v = .bool b
  | .int i => ∃ t, v = .int i t
  | .str l => ∃ t, v = .str ⟨l.toArray⟩ t
  | .val u => v = u

noncomputable abbrev Loc := List (Str × MV)
noncomputable def put (x : Str) (v : MV) : Loc → Loc
  | [] => [(x, v)]
  | (y, u) :: r => if y == x then (x, v) :: r else (y, u) :: put x v r
theorem lookup_put (x : Str) (v : MV) (y : Str) : ∀ loc : Loc, (put x v loc).lookup y = if y = x then some v else loc.lookup y
  | [] => by
    simp only [put, List.lookup_cons, List.lookup_nil]
    by_cases h : y = x
    · subst h; simp
    · have : (y == x) = false := beq_eq_false_iff_ne.mpr h
      simp [this, h]
  | (z, u) :: r => by
    have ih := lookup_put x v y r
    unfold put
    by_cases hz : (z == x) = true
    · have hz' : z = x := eq_of_beq hz
      subst hz'
      rw [if_pos hz]
      simp only [List.lookup_cons]
      by_cases h : y = z
      · subst h; simp
      · have : (y == z) = false := beq_eq_false_iff_ne.mpr h
        simp [this, h]
    · rw [if_neg hz]
      simp only [List.lookup_cons, ih]
      by_cases h : y = x
      · subst h
        have : (y == z) = false := by
          cases q : (y == z) with
          | false => rfl
          | true => exact absurd (by rw [eq_of_beq q]; exact beq_self_eq_true _) hz
        simp [this]
      · simp [h]

noncomputable def ptruth : MV → Option (Bool × List Nat)
  | .none => some (false, [])
  | .bool b => some (b, [])
  | .int i => some (i != 0, [])
  | .str [] => some (false, [])
  | .str (c :: l) => some (true, [(c :: l).length])
  | .val _ => Option.none

/-! shapes: what a value, a list, an expression is -/
noncomputable def as1 {α : Type} : List α → Option α
  | [] => Option.none
  | a :: r => match r with
    | [] => some a
    | _ :: _ => Option.none
noncomputable def as2 {α : Type} : List α → Option (α × α)
  | [] => Option.none
  | a :: r => (as1 r).map fun b => (a, b)
theorem as1_eq {α : Type} {l : List α} {a : α} (h : as1 l = some a) : l = [a] := by
  cases l with
  | nil => exact nomatch (show Option.none = some a from h)
  | cons b r => cases r with
    | nil => rw [Option.some.inj (show some b = some a from h)]
    | cons _ _ => exact nomatch (show Option.none = some a from h)
theorem bnd {α β : Type} {o : Option α} {f : α → Option β} {b : β} {C : Prop} (h : o.bind f = some b) (k : ∀ a, o = some a → f a = some b → C) : C := by
  cases o with
  | none => exact nomatch (show Option.none = some b from h)
  | some a => exact k a rfl h
theorem mpd {α β : Type} {o : Option α} {f : α → β} {b : β} {C : Prop} (h : o.map f = some b) (k : ∀ a, o = some a → f a = b → C) : C := by
  cases o with
  | none => exact nomatch (show Option.none = some b from h)
  | some a => exact k a rfl (Option.some.inj h)
theorem cnd {α : Type} {c : Bool} {o : Option α} {b : α} {C : Prop} (h : cond c o Option.none = some b) (k : c = true → o = some b → C) : C := by
  cases c with
  | true => exact k rfl h
  | false => exact nomatch (show Option.none = some b from h)
theorem cnd' {α : Type} {c : Bool} {o : Option α} {b : α} {C : Prop} (h : cond c Option.none o = some b) (k : c = false → o = some b → C) : C := by
  cases c with
  | false => exact k rfl h
  | true => exact nomatch (show Option.none = some b from h)
theorem as2_eq {α : Type} {l : List α} {p : α × α} (h : as2 l = some p) : l = [p.1, p.2] := by
  cases l with
  | nil => exact nomatch (show Option.none = some p from h)
  | cons a r => exact mpd (show (as1 r).map (fun b => (a, b)) = some p from h) fun b hb e => by rw [as1_eq hb, ← e]
noncomputable def asStr : MV → Option (List Nat)
  | .str l => some l
  | _ => Option.none
noncomputable def asInt : MV → Option Int
  | .int i => some i
  | _ => Option.none
noncomputable def asBoo : MV → Option Bool
  | .bool b => some b
  | _ => Option.none
noncomputable def asVal : MV → Option Value
  | .val v => some v
  | _ => Option.none
noncomputable def asNat : MV → Option Nat
  | .int i => match i with
    | .ofNat k => some k
    | .negSucc _ => Option.none
  | _ => Option.none
theorem asStr_eq {a : MV} {l : List Nat} (h : asStr a = some l) : a = .str l := by cases a <;> cases h; rfl
theorem asInt_eq {a : MV} {i : Int} (h : asInt a = some i) : a = .int i := by cases a <;> cases h; rfl
theorem asBoo_eq {a : MV} {b : Bool} (h : asBoo a = some b) : a = .bool b := by cases a <;> cases h; rfl
theorem asVal_eq {a : MV} {v : Value} (h : asVal a = some v) : a = .val v := by cases a <;> cases h; rfl
theorem asNat_eq {a : MV} {k : Nat} (h : asNat a = some k) : a = .int k := by
  cases a <;> first | cases h | skip
  rename_i i
  cases i <;> cases h; rfl
noncomputable def asType : Value → Option String
  | .type t => some t
  | _ => Option.none
noncomputable def asRef : Value → Option Addr
  | .ref a => some a
  | _ => Option.none
theorem asType_eq {v : Value} {t : String} (h : asType v = some t) : v = .type t := by cases v <;> cases h; rfl
theorem asRef_eq {v : Value} {a : Addr} (h : asRef v = some a) : v = .ref a := by cases v <;> cases h; rfl
noncomputable def asName : Expr → Option Str
  | .Name y _ => some y
  | _ => Option.none
theorem asName_eq {e : Expr} {y : Str} (h : asName e = some y) : ∃ p, e = .Name y p := by
  cases e <;> cases h
  exact ⟨_, rfl⟩
noncomputable def asAttr : Expr → Option (Str × Str)
  | .Attribute v a _ => (asName v).map fun y => (y, a)
  | _ => Option.none
theorem asAttr_eq {e : Expr} {q : Str × Str} (h : asAttr e = some q) : ∃ p p', e = .Attribute (.Name q.1 p) q.2 p' := by
  cases e <;> first | exact nomatch (show Option.none = some q from h) | skip
  rename_i v a p'
  refine mpd (show (asName v).map (fun y => (y, a)) = some q from h) fun y hy e => ?_
  obtain ⟨p, rfl⟩ := asName_eq hy
  subst e
  exact ⟨p, p', rfl⟩
noncomputable def asSlice : Expr → Option (Option Expr × Option Expr)
  | .Slice lo hi st _ => match st with
    | Option.none => some (lo, hi)
    | some _ => Option.none
  | _ => Option.none
theorem asSlice_eq {e : Expr} {q : Option Expr × Option Expr} (h : asSlice e = some q) : ∃ p, e = .Slice q.1 q.2 Option.none p := by
  cases e <;> first | exact nomatch (show Option.none = some q from h) | skip
  rename_i lo hi st p
  cases st with
  | none => rw [← Option.some.inj (show some (lo, hi) = some q from h)]; exact ⟨p, rfl⟩
  | some _ => exact nomatch (show Option.none = some q from h)
noncomputable def asTuple : Expr → Option (List Expr)
  | .Tuple l _ _ => some l
  | _ => Option.none
theorem asTuple_eq {e : Expr} {l : List Expr} (h : asTuple e = some l) : ∃ k p, e = .Tuple l k p := by
  cases e <;> cases h
  exact ⟨_, _, rfl⟩
noncomputable def asTxt : Expr → Option Str
  | .Constant c _ _ => match c with
    | .str t => some t
    | _ => Option.none
  | _ => Option.none
theorem asTxt_eq {e : Expr} {t : Str} (h : asTxt e = some t) : ∃ k p, e = .Constant (.str t) k p := by
  cases e <;> first | exact nomatch (show Option.none = some t from h) | skip
  rename_i c k p
  cases c <;> cases h
  exact ⟨k, p, rfl⟩
/-! shapes of calls and statements -/
structure MethC where
  o : Expr
  a : Str
  ap : Pos
  args : List Expr
  p : Pos
noncomputable def MethC.line (c : MethC) : Bool := c.ap.endLine == c.p.line
noncomputable def asAtt : Expr → Option (Expr × Str × Pos)
  | .Attribute v a p => some (v, a, p)
  | _ => Option.none
theorem asAtt_eq {e : Expr} {q : Expr × Str × Pos} (h : asAtt e = some q) : e = .Attribute q.1 q.2.1 q.2.2 := by
  cases e <;> first | exact nomatch (show Option.none = some q from h) | skip
  rename_i v a p
  rw [← Option.some.inj (show some (v, a, p) = some q from h)]
noncomputable def asCall : Expr → Option (Expr × List Expr × Pos)
  | .Call f args kws p => match kws with
    | [] => some (f, args, p)
    | _ :: _ => Option.none
  | _ => Option.none
theorem asCall_eq {e : Expr} {q : Expr × List Expr × Pos} (h : asCall e = some q) : e = .Call q.1 q.2.1 [] q.2.2 := by
  cases e <;> first | exact nomatch (show Option.none = some q from h) | skip
  rename_i f args kws p
  cases kws with
  | nil => rw [← Option.some.inj (show some (f, args, p) = some q from h)]
  | cons _ _ => exact nomatch (show Option.none = some q from h)
noncomputable def asMeth (e : Expr) : Option MethC := (asCall e).bind fun c => (asAtt c.1).map fun q => ⟨q.1, q.2.1, q.2.2, c.2.1, c.2.2⟩
theorem asMeth_eq {e : Expr} {c : MethC} (h : asMeth e = some c) : e = .Call (.Attribute c.o c.a c.ap) c.args [] c.p :=
  bnd h fun q hq h => mpd h fun t ht e => by rw [asCall_eq hq, asAtt_eq ht, ← e]
noncomputable def asCInt : Expr → Option Int
  | .Constant c _ _ => match c with
    | .int i => some i
    | _ => Option.none
  | _ => Option.none
theorem asCInt_eq {e : Expr} {i : Int} (h : asCInt e = some i) : ∃ k p, e = .Constant (.int i) k p := by
  cases e <;> first | exact nomatch (show Option.none = some i from h) | skip
  rename_i c k p
  cases c <;> first | exact nomatch (show Option.none = some i from h) | skip
  rename_i j
  rw [← Option.some.inj (show some j = some i from h)]
  exact ⟨k, p, rfl⟩
noncomputable def asBin : Expr → Option (Expr × Operator × Expr)
  | .BinOp l op r _ => some (l, op, r)
  | _ => Option.none
theorem asBin_eq {e : Expr} {q : Expr × Operator × Expr} (h : asBin e = some q) : ∃ p, e = .BinOp q.1 q.2.1 q.2.2 p := by
  cases e <;> first | exact nomatch (show Option.none = some q from h) | skip
  rename_i l op r p
  rw [← Option.some.inj (show some (l, op, r) = some q from h)]
  exact ⟨p, rfl⟩
noncomputable def asUn : Expr → Option (UnaryOp × Expr)
  | .UnaryOp op v _ => some (op, v)
  | _ => Option.none
theorem asUn_eq {e : Expr} {q : UnaryOp × Expr} (h : asUn e = some q) : ∃ p, e = .UnaryOp q.1 q.2 p := by
  cases e <;> first | exact nomatch (show Option.none = some q from h) | skip
  rename_i op v p
  rw [← Option.some.inj (show some (op, v) = some q from h)]
  exact ⟨p, rfl⟩
noncomputable def asSubs : Expr → Option (Expr × Expr)
  | .Subscript v k _ => some (v, k)
  | _ => Option.none
theorem asSubs_eq {e : Expr} {q : Expr × Expr} (h : asSubs e = some q) : ∃ p, e = .Subscript q.1 q.2 p := by
  cases e <;> first | exact nomatch (show Option.none = some q from h) | skip
  rename_i v k p
  rw [← Option.some.inj (show some (v, k) = some q from h)]
  exact ⟨p, rfl⟩
noncomputable def isAdd : Operator → Bool
  | .Add => true
  | _ => false
theorem isAdd_eq {o : Operator} (h : isAdd o = true) : o = .Add := by cases o <;> first | rfl | exact nomatch (show false = true from h)
noncomputable def isUSub : UnaryOp → Bool
  | .USub => true
  | _ => false
theorem isUSub_eq {o : UnaryOp} (h : isUSub o = true) : o = .USub := by cases o <;> first | rfl | exact nomatch (show false = true from h)
noncomputable def asExprS : Stmt → Option Expr
  | .Expr e _ => some e
  | _ => Option.none
theorem asExprS_eq {st : Stmt} {e : Expr} (h : asExprS st = some e) : ∃ p, st = .Expr e p := by
  cases st <;> first | exact nomatch (show Option.none = some e from h) | skip
  rename_i v p
  rw [← Option.some.inj (show some v = some e from h)]
  exact ⟨p, rfl⟩
noncomputable def asAsg1 : Stmt → Option (Expr × Expr)
  | .Assign ts v _ => (as1 ts).map fun t => (t, v)
  | _ => Option.none
theorem asAsg1_eq {st : Stmt} {q : Expr × Expr} (h : asAsg1 st = some q) : ∃ p, st = .Assign [q.1] q.2 p := by
  cases st <;> first | exact nomatch (show Option.none = some q from h) | skip
  rename_i ts v p
  exact mpd (show (as1 ts).map (fun t => (t, v)) = some q from h) fun t ht e => ⟨p, by rw [as1_eq ht, ← e]⟩
noncomputable def asRaise : Stmt → Option Expr
  | .Raise e c _ => match c with
    | Option.none => e
    | some _ => Option.none
  | _ => Option.none
theorem asRaise_eq {st : Stmt} {e : Expr} (h : asRaise st = some e) : ∃ p, st = .Raise (some e) Option.none p := by
  cases st <;> first | exact nomatch (show Option.none = some e from h) | skip
  rename_i v c p
  cases c with
  | none => rw [show v = some e from h]; exact ⟨p, rfl⟩
  | some _ => exact nomatch (show Option.none = some e from h)
noncomputable def isSet : Expr → Bool
  | .Set .. => true
  | _ => false

noncomputable def pEq (a b : MV) : Option Bool := match a with
  | .str l => match b with
    | .str m => some (l == m)
    | .none => some false
    | _ => Option.none
  | .none => match b with
    | .none => some true
    | .str _ => some false
    | _ => Option.none
  | .int i => (asInt b).map fun j => i == j
  | _ => Option.none
noncomputable def isN : MV → Option Bool
  | .none => some true
  | .val v => (asRef v).map fun _ => false
  | _ => some false
noncomputable def pIs (a b : MV) : Option Bool := match b with
  | .none => isN a
  | .val v => (asType v).bind fun t => (asVal a).bind fun u => (asType u).map fun t' => t' == t
  | _ => Option.none
noncomputable def pIn (a b : MV) : Option Bool := (asStr a).bind fun l => (as1 l).bind fun c => (asStr b).map fun m => m.any (· == c)
noncomputable def pII (f : Int → Int → Bool) (a b : MV) : Option Bool := (asInt a).bind fun i => (asInt b).map fun j => f i j
noncomputable def pcmp (op : CmpOp) (a b : MV) : Option MV := (match op with
  | .Eq => pEq a b
  | .NotEq => (pEq a b).map fun c => !c
  | .Is => pIs a b
  | .IsNot => (pIs a b).map fun c => !c
  | .In => pIn a b
  | .NotIn => (pIn a b).map fun c => !c
  | .Lt => pII (fun i j => decide (i < j)) a b
  | .LtE => pII (fun i j => decide (i ≤ j)) a b
  | .Gt => pII (fun i j => decide (j < i)) a b
  | .GtE => pII (fun i j => decide (j ≤ i)) a b).map MV.bool

/-- built-in calls upon plain values -/
noncomputable def ptype : MV → Option (MV × List Nat)
  | .int _ => some (.val (.type "int"), [])
  | .str _ => some (.val (.type "str"), [])
  | _ => Option.none
noncomputable def pcallT (t : String) (v : MV) : Option (MV × List Nat) := cond (t == "type") (ptype v) (cond (t == "int") ((asInt v).map fun i => (.int i, [])) Option.none)
noncomputable def pcallI (p : MV × MV) : Option (MV × List Nat) := (asStr p.1).bind fun _ => (asVal p.2).bind fun u => (asType u).bind fun s => cond (s == "str") (some (.bool true, [])) Option.none
noncomputable def pcallL (vs : List MV) : Option (MV × List Nat) := (as1 vs).bind fun v => (asStr v).map fun l => (.int l.length, [l.length])
noncomputable def pcallB (fv : Value) (vs : List MV) : Option (MV × List Nat) := match fv with
  | .type t => (as1 vs).bind (pcallT t)
  | .builtin t => cond (t == "len") (pcallL vs) (cond (t == "isinstance") ((as2 vs).bind pcallI) Option.none)
  | _ => Option.none

/-- sums of texts and ints; the text's length is to be shown small -/
noncomputable def padd (a b : MV) : Option (MV × List Nat) := match a with
  | .str l => (asStr b).map fun m => (.str (l ++ m), [l.length + m.length])
  | .int i => (asInt b).map fun j => (.int (i + j), [])
  | _ => Option.none
noncomputable def pbin (op : Operator) (a b : MV) : Option (MV × List Nat) := match op with
  | .Add => padd a b
  | .Sub => (asInt a).bind fun i => (asInt b).map fun j => (.int (i - j), [])
  | _ => Option.none

/-- a text's part, by places from the start -/
noncomputable def pcut (l : List Nat) (a b : Option Nat) : List Nat := (l.take (b.getD l.length)).drop (a.getD 0)

structure Face (ε : Type) where
  selfV : Str → Option Value
  getA : ε → Str → Str → Option MV
  setA : ε → Str → Str → MV → Option ε
  hookE : Expr → Loc → ε → Option (MV × ε)
  hookS : Stmt → Loc → ε → Option (Loc × ε)
  hookT : Expr → Loc → ε → Option (Bool × ε)
  asgN : List Str
  gfun : Str → Option Value
  callV : Value → List MV → ε → Option (MV × ε)

noncomputable def strElts (l : List Expr) : Option (List (List Nat)) := @List.rec Expr (fun _ => Option (List (List Nat))) (some []) (fun e _ ih => (asTxt e).bind fun t => ih.map fun r => t.cps.toList :: r) l

noncomputable def isStar : Expr → Bool
  | .Starred .. => true
  | _ => false
inductive PFlow where
  | next | brk | cont
  | ret (v : MV)
  | at (st : Stmt)
noncomputable def isNext : PFlow → Bool
  | .next => true
  | _ => false
noncomputable def isComp : Expr → Bool
  | .ListComp .. | .SetComp .. | .DictComp .. => true
  | _ => false
noncomputable def pconst : Const → Option MV
  | .none => some .none
  | .bool b => some (.bool b)
  | .int i => some (.int i)
  | .str t => some (.str t.cps.toList)
  | _ => Option.none

structure PV (ε : Type) where
  ev : Expr → Loc → ε → Option (MV × ε × List Nat)
  part : Option Expr → Loc → ε → Option (Option Nat × ε × List Nat)
  evs : List Expr → Loc → ε → Option (List MV × ε × List Nat)
  test : Expr → Loc → ε → Option (Bool × ε × List Nat)
  all : BoolOp → List Expr → Loc → ε → Option (Bool × ε × List Nat)
structure XV (ε : Type) where
  xs : List Stmt → Loc → ε → Option (PFlow × Loc × ε × List Nat)
  x1 : Stmt → Loc → ε → Option (PFlow × Loc × ε × List Nat)

section
variable {ε : Type} (I : Face ε) (P : PV ε)
noncomputable def inTexts (l : Expr) (op : CmpOp) (elts : List Expr) (loc : Loc) (x : ε) : Option (Bool × ε × List Nat) := match op with
  | .In => cond (Nat.ble elts.length 100) ((strElts elts).bind fun ys => (P.ev l loc x).bind fun a => (asStr a.1).map fun t => (ys.any (· == t), a.2.1, a.2.2)) Option.none
  | _ => Option.none
noncomputable def evCmp (l : Expr) (op : CmpOp) (r : Expr) (loc : Loc) (x : ε) : Option (MV × ε × List Nat) := cond (isSet r) Option.none ((P.ev l loc x).bind fun a => (P.ev r loc a.2.1).bind fun b => (pcmp op a.1 b.1).map fun c => (c, b.2.1, a.2.2 ++ b.2.2))
noncomputable def goOn (op : BoolOp) (b : Bool) : Bool := match op with
  | .And => b
  | .Or => !b
noncomputable def evBool (op : BoolOp) (p : Expr × Expr) (loc : Loc) (x : ε) : Option (MV × ε × List Nat) := (P.ev p.1 loc x).bind fun a => (ptruth a.1).bind fun t =>
  cond (goOn op t.1) ((P.ev p.2 loc a.2.1).map fun b => (b.1, b.2.1, a.2.2 ++ (t.2 ++ b.2.2))) (some (a.1, a.2.1, a.2.2 ++ t.2))
noncomputable def evSub (v : Expr) (q : Option Expr × Option Expr) (loc : Loc) (x : ε) : Option (MV × ε × List Nat) := (P.ev v loc x).bind fun a => (asStr a.1).bind fun l => (P.part q.1 loc a.2.1).bind fun b => (P.part q.2 loc b.2.1).map fun c =>
  (.str (pcut l b.1 c.1), c.2.1, a.2.2 ++ (b.2.2 ++ (c.2.2 ++ [l.length])))
noncomputable def evCall (y : Str) (args : List Expr) (loc : Loc) (x : ε) : Option (MV × ε × List Nat) := (I.gfun y).bind fun fv => (P.evs args loc x).bind fun a => match pcallB fv a.1 with
  | some r => some (r.1, a.2.1, a.2.2 ++ r.2)
  | Option.none => (I.callV fv a.1 a.2.1).map fun r => (r.1, r.2, a.2.2)
noncomputable def evCore (e : Expr) (loc : Loc) (x : ε) : Option (MV × ε × List Nat) := match e with
  | .Constant c _ _ => (pconst c).map fun v => (v, x, [])
  | .Name y _ => match loc.lookup y with
    | some v => some (v, x, [])
    | Option.none => (I.gfun y).map fun v => (.val v, x, [])
  | .Attribute v a _ => (asName v).bind fun y => (I.selfV y).bind fun _ => (I.getA x y a).map fun v => (v, x, [])
  | .Compare l ops rs _ => (as1 ops).bind fun op => (as1 rs).bind fun r => match asTuple r with
    | some elts => (inTexts P l op elts loc x).map fun a => (.bool a.1, a.2.1, a.2.2)
    | Option.none => evCmp P l op r loc x
  | .BoolOp op vs _ => (as2 vs).bind fun p => evBool P op p loc x
  | .IfExp t b o _ => (P.test t loc x).bind fun a => (P.ev (cond a.1 b o) loc a.2.1).map fun c => (c.1, c.2.1, a.2.2 ++ c.2.2)
  | .UnaryOp op v _ => match op with
    | .USub => (P.ev v loc x).bind fun a => (asInt a.1).map fun i => (.int (-i), a.2.1, a.2.2)
    | _ => Option.none
  | .BinOp l op r _ => (P.ev l loc x).bind fun a => (P.ev r loc a.2.1).bind fun b => (pbin op a.1 b.1).map fun c => (c.1, b.2.1, a.2.2 ++ (b.2.2 ++ c.2))
  | .Subscript v k _ => (asSlice k).bind fun q => evSub P v q loc x
  | .Call f args kws _ => (asName f).bind fun y => match kws with
    | [] => evCall I P y args loc x
    | _ :: _ => Option.none
  | _ => Option.none
noncomputable def evStep (e : Expr) (loc : Loc) (x : ε) : Option (MV × ε × List Nat) := match I.hookE e loc x with
  | some p => some (p.1, p.2, [])
  | Option.none => evCore I P e loc x
noncomputable def partStep (e : Option Expr) (loc : Loc) (x : ε) : Option (Option Nat × ε × List Nat) := match e with
  | Option.none => some (Option.none, x, [])
  | some e => (P.ev e loc x).bind fun a => (asNat a.1).map fun k => (some k, a.2.1, a.2.2)
noncomputable def evsStep (es : List Expr) (loc : Loc) (x : ε) : Option (List MV × ε × List Nat) := match es with
  | [] => some ([], x, [])
  | e :: r => cond (isStar e) Option.none ((P.ev e loc x).bind fun a => (P.evs r loc a.2.1).map fun b => (a.1 :: b.1, b.2.1, a.2.2 ++ b.2.2))
noncomputable def tVal (e : Expr) (loc : Loc) (x : ε) : Option (Bool × ε × List Nat) := (P.ev e loc x).bind fun a => (ptruth a.1).map fun t => (t.1, a.2.1, a.2.2 ++ t.2)
noncomputable def tCmp (l : Expr) (op : CmpOp) (r : Expr) (loc : Loc) (x : ε) : Option (Bool × ε × List Nat) := cond (isSet r) Option.none ((P.ev l loc x).bind fun a => (P.ev r loc a.2.1).bind fun b => (pcmp op a.1 b.1).bind fun c => (asBoo c).map fun d => (d, b.2.1, a.2.2 ++ b.2.2))
noncomputable def tCore (e : Expr) (loc : Loc) (x : ε) : Option (Bool × ε × List Nat) := match e with
  | .BoolOp op vs _ => P.all op vs loc x
  | .UnaryOp op v _ => match op with
    | .Not => (P.test v loc x).map fun a => (!a.1, a.2.1, a.2.2)
    | _ => Option.none
  | .IfExp .. => Option.none
  | .Compare l ops rs _ => (as1 ops).bind fun op => (as1 rs).bind fun r => match asTuple r with
    | some elts => inTexts P l op elts loc x
    | Option.none => tCmp P l op r loc x
  | e => tVal P e loc x
noncomputable def tStep (e : Expr) (loc : Loc) (x : ε) : Option (Bool × ε × List Nat) := match I.hookT e loc x with
  | some p => some (p.1, p.2, [])
  | Option.none => tCore P e loc x
noncomputable def allStep (op : BoolOp) (vs : List Expr) (loc : Loc) (x : ε) : Option (Bool × ε × List Nat) := match vs with
  | [] => some (goOn op true, x, [])
  | v :: r => match r with
    | [] => P.test v loc x
    | y :: r' => (P.test v loc x).bind fun a => cond (goOn op a.1) ((P.all op (y :: r') loc a.2.1).map fun b => (b.1, b.2.1, a.2.2 ++ b.2.2)) (some a)
noncomputable def pv0 : PV ε := ⟨fun _ _ _ => Option.none, fun _ _ _ => Option.none, fun _ _ _ => Option.none, fun _ _ _ => Option.none, fun _ _ _ _ => Option.none⟩
noncomputable def pvS : PV ε := ⟨evStep I P, partStep P, evsStep P, tStep I P, allStep P⟩
noncomputable def pvN (n : Nat) : PV ε := @Nat.rec (fun _ => PV ε) pv0 (fun _ P => pvS I P) n
noncomputable abbrev pev (n : Nat) := (pvN I n).ev
noncomputable abbrev pevs (n : Nat) := (pvN I n).evs
noncomputable abbrev ptest (n : Nat) := (pvN I n).test
noncomputable def xAug (X : ε) (t : Expr) (value : Expr) (loc : Loc) : Option (PFlow × Loc × ε × List Nat) := match asName t with
  | some y => cond (I.asgN.contains y) ((loc.lookup y).bind fun old => (P.ev value loc X).bind fun a => (padd old a.1).map fun r => (.next, put y r.1 loc, a.2.1, a.2.2 ++ r.2)) Option.none
  | Option.none => (asAttr t).bind fun q => (I.selfV q.1).bind fun _ => (I.getA X q.1 q.2).bind fun old => (P.ev value loc X).bind fun a => (padd old a.1).bind fun r => (I.setA a.2.1 q.1 q.2 r.1).map fun x₂ => (.next, loc, x₂, a.2.2 ++ r.2)
noncomputable def xAsg (X : ε) (t : Expr) (value : Expr) (loc : Loc) : Option (PFlow × Loc × ε × List Nat) := match asName t with
  | some y => cond (I.asgN.contains y) ((P.ev value loc X).map fun a => (.next, put y a.1 loc, a.2.1, a.2.2)) Option.none
  | Option.none => (asAttr t).bind fun q => (P.ev value loc X).bind fun a => (I.selfV q.1).bind fun _ => (I.setA a.2.1 q.1 q.2 a.1).map fun x₂ => (.next, loc, x₂, a.2.2)
noncomputable def xCore (Y : XV ε) (st : Stmt) (loc : Loc) (x : ε) : Option (PFlow × Loc × ε × List Nat) := match st with
  | .Assign ts value _ => cond (isComp value) Option.none ((as1 ts).bind fun t => xAsg I P x t value loc)
  | .AugAssign t op value _ => match op with
    | .Add => xAug I P x t value loc
    | _ => Option.none
  | .If t b o _ => (P.test t loc x).bind fun a => (Y.xs (cond a.1 b o) loc a.2.1).map fun r => (r.1, r.2.1, r.2.2.1, a.2.2 ++ r.2.2.2)
  | .Pass _ => some (.next, loc, x, [])
  | .Break _ => some (.brk, loc, x, [])
  | .Continue _ => some (.cont, loc, x, [])
  | .Return v _ => match v with
    | some e => (P.ev e loc x).map fun a => (.ret a.1, loc, a.2.1, a.2.2)
    | Option.none => some (.ret .none, loc, x, [])
  | .Raise a b p => some (.at (.Raise a b p), loc, x, [])
  | _ => Option.none
noncomputable def xStep (Y : XV ε) (st : Stmt) (loc : Loc) (x : ε) : Option (PFlow × Loc × ε × List Nat) := match I.hookS st loc x with
  | some p => some (.next, p.1, p.2, [])
  | Option.none => xCore I P Y st loc x
noncomputable def xsStep (Y : XV ε) (sts : List Stmt) (loc : Loc) (x : ε) : Option (PFlow × Loc × ε × List Nat) := match sts with
  | [] => some (.next, loc, x, [])
  | st :: r => (Y.x1 st loc x).bind fun a => cond (isNext a.1) ((Y.xs r a.2.1 a.2.2.1).map fun b => (b.1, b.2.1, b.2.2.1, a.2.2.2 ++ b.2.2.2)) (some a)
noncomputable def xvN (n : Nat) : XV ε := @Nat.rec (fun _ => XV ε) ⟨fun _ _ _ => Option.none, fun _ _ _ => Option.none⟩ (fun n Y => ⟨xsStep Y, xStep I (pvN I n) Y⟩) n
noncomputable abbrev pexec (n : Nat) := (xvN I n).xs
noncomputable abbrev pex1 (n : Nat) := (xvN I n).x1
end
end Mine
end -- B1
section -- B2
set_option maxRecDepth 100000
namespace Mine

inductive Sims : List Value → List MV → Prop
  | nil : Sims [] []
  | cons {v mv vs mvs} : Sim v mv → Sims vs mvs → Sims (v :: vs) (mv :: mvs)

structure FaceOk {ε : Type} (I : Face ε) (prog : Program) (w : World) (A : Around) (env : Env) (E : Value → Shared → Prop) (R : Loc → ε → Shared → Prop) : Prop where
  name : ∀ {loc x s y v pos} {Q : Value → Shared → Prop}, R loc x s → loc.lookup y = some v → (∀ v', Sim v' v → Q v' s) → wpAny (model prog w) A (eval (.Name y pos) env) Q E s
  load : ∀ {loc x s y v} {Q : Value → Shared → Prop}, R loc x s → loc.lookup y = some v → (∀ v', Sim v' v → Q v' s) → wpAny (model prog w) A (loadName env y) Q E s
  store : ∀ {loc x s y v mv} {Q : Unit → Shared → Prop}, R loc x s → I.asgN.contains y = true → Sim v mv → (∀ s', R (put y mv loc) x s' → Q () s') → wpAny (model prog w) A (storeName env y v) Q E s
  toks : ∀ {loc x s tk}, R loc x s → R loc x { s with toks := tk }
  push : ∀ {loc x s o}, R loc x s → o.isFreed = false → R loc x { s with heap := s.heap.push o }
  sname : ∀ {loc x s y o pos} {Q : Value → Shared → Prop}, R loc x s → I.selfV y = some o → Q o s → wpAny (model prog w) A (eval (.Name y pos) env) Q E s
  get : ∀ {loc x s y o a mv} {Q : Value → Shared → Prop}, R loc x s → I.selfV y = some o → I.getA x y a = some mv → (∀ v' s', Sim v' mv → R loc x s' → Q v' s') → wpAny (model prog w) A (getAttr o a true) Q E s
  set : ∀ {loc x s y o a v mv x'} {Q : Unit → Shared → Prop}, R loc x s → I.selfV y = some o → I.setA x y a mv = some x' → Sim v mv → (∀ s', R loc x' s' → Q () s') → wpAny (model prog w) A (setAttr o a v) Q E s
  hookE : ∀ {loc x s e v x'} {Q : Value → Shared → Prop}, R loc x s → I.hookE e loc x = some (v, x') → (∀ v' s', Sim v' v → R loc x' s' → Q v' s') → wpAny (model prog w) A (eval e env) Q E s
  hookS : ∀ {loc x s st loc' x'} {Q : Flow → Shared → Prop}, R loc x s → I.hookS st loc x = some (loc', x') → (∀ s', R loc' x' s' → Q .next s') → wpAny (model prog w) A (exec st env) Q E s
  hookT : ∀ {loc x s e b x'} {Q : Bool → Shared → Prop}, R loc x s → I.hookT e loc x = some (b, x') → (∀ s', R loc x' s' → Q b s') → wpAny (model prog w) A (isTrue e env (eval e env)) Q E s
  gname : ∀ {loc x s f fv pos} {Q : Value → Shared → Prop}, R loc x s → I.gfun f = some fv → Q fv s → wpAny (model prog w) A (eval (.Name f pos) env) Q E s
  keeper : ∀ {loc x s f fv}, R loc x s → I.gfun f = some fv → ∃ k, (k = Keeper.frame ∨ k = Keeper.machine ∨ k = Keeper.boundFrame) ∧ Looks (model prog w) s.heap (keeperOf fv) k
  call : ∀ {loc x s f fv vs mvs v x'} {Q : Value → Shared → Prop}, R loc x s → I.gfun f = some fv → I.callV fv mvs x = some (v, x') → Sims vs mvs → (∀ v' s', Sim v' v → R loc x' s' → Q v' s') → wpAny (model prog w) A (PySem.call fv vs) Q E s

theorem str_beq (a b : List Nat) : ((⟨a.toArray⟩ : Str) == ⟨b.toArray⟩) = (a == b) := by
  rw [← toList_beq]
theorem str_bne (a b : List Nat) : ((⟨a.toArray⟩ : Str) != ⟨b.toArray⟩) = (a != b) := by
  rw [← toList_bne]
theorem str_app (a b : List Nat) : ((⟨a.toArray⟩ : Str) ++ ⟨b.toArray⟩) = ⟨(a ++ b).toArray⟩ := by
  show Str.append _ _ = _
  simp [Str.append]
theorem str_len (a : List Nat) : (⟨a.toArray⟩ : Str).length = a.length := by simp [Str.length]
theorem any_mem (c : Nat) (b : List Nat) : decide (c ∈ b) = b.any (· == c) := by
  rw [Bool.eq_iff_iff]; simp

theorem ty_beq (a b : String) : (Value.type a == Value.type b) = (a == b) := by
  rw [Bool.eq_iff_iff]; simp
section
variable {prog : Program} {w : World} {A : Around} {E : Value → Shared → Prop} {s : Shared}
theorem wp_truth {v : Value} {mv : MV} {r : Bool × List Nat} {Q : Bool → Shared → Prop} (h : ptruth mv = some r) (hs : Sim v mv) (ho : ∀ k ∈ r.2, k ≤ sizeLine) (hQ : ∀ tk, Q r.1 { s with toks := tk }) : wpAny (model prog w) A (truthy v) Q E s := by
  cases mv with
  | none => cases (Option.some.inj h); cases hs; exact wpAny_pure (hQ s.toks)
  | bool c => cases (Option.some.inj h); cases hs; exact wpAny_truthy_bool (hQ s.toks)
  | int i => cases (Option.some.inj h); obtain ⟨t, rfl⟩ := hs; exact P.truthy_int (hQ s.toks)
  | val u => exact nomatch (show Option.none = some r from h)
  | str l =>
    obtain ⟨t, rfl⟩ := hs
    cases l with
    | nil => cases (Option.some.inj h); exact P.truthy_str (by simp [Str.length]) (hQ _)
    | cons c l =>
      cases (Option.some.inj h)
      have hl := ho _ (List.mem_singleton.mpr rfl)
      have e1 : ((⟨(c :: l).toArray⟩ : Str).length : Int) = ((c :: l).length : Int) := by rw [str_len]
      refine P.truthy_str ?_ ?_
      · rw [e1]; rw [sizeLine_eq] at hl; omega
      · rw [e1]
        have : (((c :: l).length : Int) != 0) = true := by simp; omega
        rw [this]; exact hQ _
theorem wp_eq {v u : Value} {a b : MV} {c : Bool} {Q : Value → Shared → Prop} (h : pEq a b = some c) (hv : Sim v a) (hu : Sim u b) (hQ : Q (.bool c) s) : wpAny (model prog w) A (compareOp .Eq v u) Q E s := by
  cases a with
  | str l => cases b with
    | str m =>
      cases (Option.some.inj h); obtain ⟨t, rfl⟩ := hv; obtain ⟨t', rfl⟩ := hu
      exact PyProof.Rows.eq_str (by rw [str_beq]; exact hQ)
    | none => cases (Option.some.inj h); obtain ⟨t, rfl⟩ := hv; cases hu; exact EqNone.eq_str_none hQ
    | _ => exact nomatch (show Option.none = some c from h)
  | none => cases b with
    | none => cases (Option.some.inj h); cases hv; cases hu; exact EqNone.eq_none_none hQ
    | str m => cases (Option.some.inj h); cases hv; obtain ⟨t, rfl⟩ := hu; exact EqNone.eq_none_str hQ
    | _ => exact nomatch (show Option.none = some c from h)
  | int i =>
      refine mpd (show (asInt b).map (fun j => i == j) = some c from h) fun j hj e => ?_
      cases asInt_eq hj; cases e; obtain ⟨t, rfl⟩ := hv; obtain ⟨t', rfl⟩ := hu; exact P.eq_int hQ
  | _ => exact nomatch (show Option.none = some c from h)
theorem wp_ne {v u : Value} {a b : MV} {c : Bool} {Q : Value → Shared → Prop} (h : pEq a b = some c) (hv : Sim v a) (hu : Sim u b) (hQ : Q (.bool (!c)) s) : wpAny (model prog w) A (compareOp .NotEq v u) Q E s := by
  cases a with
  | str l => cases b with
    | str m =>
      cases (Option.some.inj h); obtain ⟨t, rfl⟩ := hv; obtain ⟨t', rfl⟩ := hu
      exact PyProof.Rows.ne_str (by rw [str_bne]; exact hQ)
    | none => cases (Option.some.inj h); obtain ⟨t, rfl⟩ := hv; cases hu; exact EqNone.ne_str_none hQ
    | _ => exact nomatch (show Option.none = some c from h)
  | none => cases b with
    | none => cases (Option.some.inj h); cases hv; cases hu; exact EqNone.ne_none_none hQ
    | str m => cases (Option.some.inj h); cases hv; obtain ⟨t, rfl⟩ := hu; exact EqNone.ne_none_str hQ
    | _ => exact nomatch (show Option.none = some c from h)
  | int i =>
      refine mpd (show (asInt b).map (fun j => i == j) = some c from h) fun j hj e => ?_
      cases asInt_eq hj; cases e; obtain ⟨t, rfl⟩ := hv; obtain ⟨t', rfl⟩ := hu; exact P.ne_int hQ
  | _ => exact nomatch (show Option.none = some c from h)
theorem isN_eq {v : Value} {a : MV} {c : Bool} (h : isN a = some c) (hv : Sim v a) : (v == .none) = c := by
  cases a with
  | none => cases (Option.some.inj h); cases hv; rfl
  | val u =>
      refine mpd (show (asRef u).map (fun _ => false) = some c from h) fun j hj e => ?_
      cases asRef_eq hj; cases e; cases hv; rfl
  | bool b => cases (Option.some.inj h); cases hv; rfl
  | int b => cases (Option.some.inj h); obtain ⟨t, rfl⟩ := hv; rfl
  | str b => cases (Option.some.inj h); obtain ⟨t, rfl⟩ := hv; rfl
theorem wp_is {v u : Value} {a b : MV} {c : Bool} {Q : Bool → Shared → Prop} (h : pIs a b = some c) (hv : Sim v a) (hu : Sim u b) (hQ : Q c s) : wpAny (model prog w) A (isSame v u) Q E s := by
  cases b with
  | none => cases hu; rw [isSame_none, isN_eq h hv]; exact wpAny_pure hQ
  | val u' =>
    refine bnd (show (asType u').bind (fun t => (asVal a).bind fun x => (asType x).map fun t' => t' == t) = some c from h) fun t ht h => bnd h fun x hx h => mpd h fun t' ht' e => ?_
    cases asType_eq ht; cases asVal_eq hx; cases asType_eq ht'; cases e; cases hv; cases hu
    refine wpAny_pure ?_
    rw [ty_beq]; exact hQ
  | _ => exact nomatch (show Option.none = some c from h)
theorem wp_in {v u : Value} {a b : MV} {c : Bool} {Q : Value → Shared → Prop} (h : pIn a b = some c) (hv : Sim v a) (hu : Sim u b) (hQ : Q (.bool c) s) : wpAny (model prog w) A (compareOp .In v u) Q E s := by
  refine bnd h fun l hl h => bnd h fun d hd h => mpd h fun m hm e => ?_
  cases asStr_eq hl; cases as1_eq hd; cases asStr_eq hm; cases e; obtain ⟨t, rfl⟩ := hv; obtain ⟨t', rfl⟩ := hu
  refine P.in_str ?_
  rw [show (([_] : List Nat).toArray) = #[_] from rfl, StrLaws.found_one, List.toList_toArray, any_mem]
  exact hQ
theorem wp_nin {v u : Value} {a b : MV} {c : Bool} {Q : Value → Shared → Prop} (h : pIn a b = some c) (hv : Sim v a) (hu : Sim u b) (hQ : Q (.bool (!c)) s) : wpAny (model prog w) A (compareOp .NotIn v u) Q E s := by
  refine bnd h fun l hl h => bnd h fun d hd h => mpd h fun m hm e => ?_
  cases asStr_eq hl; cases as1_eq hd; cases asStr_eq hm; cases e; obtain ⟨t, rfl⟩ := hv; obtain ⟨t', rfl⟩ := hu
  refine P.notIn_str ?_
  rw [show (([_] : List Nat).toArray) = #[_] from rfl, StrLaws.found_one, List.toList_toArray, any_mem]
  exact hQ
theorem pII_eq {f : Int → Int → Bool} {v u : Value} {a b : MV} {c : Bool} {C : Prop} (h : pII f a b = some c) (hv : Sim v a) (hu : Sim u b) (k : ∀ i j t t', v = .int i t → u = .int j t' → f i j = c → C) : C :=
  bnd h fun i hi h => mpd h fun j hj e => by
    cases asInt_eq hi; cases asInt_eq hj; obtain ⟨t, rfl⟩ := hv; obtain ⟨t', rfl⟩ := hu; exact k i j t t' rfl rfl e
theorem wp_cmp {op : CmpOp} {v u : Value} {a b r : MV} {Q : Value → Shared → Prop} (h : pcmp op a b = some r) (hv : Sim v a) (hu : Sim u b) (hQ : ∀ v', Sim v' r → Q v' s) : wpAny (model prog w) A (compareOp op v u) Q E s := by
  refine mpd h fun c hc e => ?_
  subst e
  clear h
  have hQ : Q (.bool c) s := hQ _ rfl
  cases op with
  | Eq => exact wp_eq hc hv hu hQ
  | NotEq => exact mpd (show (pEq a b).map (fun c => !c) = some c from hc) fun d hd e => wp_ne hd hv hu (by rw [e]; exact hQ)
  | Is =>
    show wpAny _ _ (do return .bool (← isSame _ _)) Q E s
    exact wpAny_bind (wp_is hc hv hu (wpAny_pure hQ))
  | IsNot =>
    refine mpd (show (pIs a b).map (fun c => !c) = some c from hc) fun d hd e => ?_
    show wpAny _ _ (do return .bool (!(← isSame _ _))) Q E s
    exact wpAny_bind (wp_is hd hv hu (wpAny_pure (by rw [e]; exact hQ)))
  | In => exact wp_in hc hv hu hQ
  | NotIn => exact mpd (show (pIn a b).map (fun c => !c) = some c from hc) fun d hd e => wp_nin hd hv hu (by rw [e]; exact hQ)
  | Lt => exact pII_eq hc hv hu fun i j t t' e1 e2 e => by subst e1 e2 e; exact P.lt_int hQ
  | LtE => exact pII_eq hc hv hu fun i j t t' e1 e2 e => by subst e1 e2 e; exact P.le_int hQ
  | Gt => exact pII_eq hc hv hu fun i j t t' e1 e2 e => by subst e1 e2 e; exact P.gt_int hQ
  | GtE => exact pII_eq hc hv hu fun i j t t' e1 e2 e => by subst e1 e2 e; exact P.ge_int hQ
theorem cnd2 {α : Type} {c : Bool} {o o' : Option α} {b : α} {C : Prop} (h : cond c o o' = some b) (k : c = true → o = some b → C) (k' : c = false → o' = some b → C) : C := by
  cases c with
  | true => exact k rfl h
  | false => exact k' rfl h
theorem sims1 {vs : List Value} {v : MV} (h : Sims vs [v]) : ∃ u, vs = [u] ∧ Sim u v := by
  cases h with | cons a b => cases b; exact ⟨_, rfl, a⟩
theorem wp_callB {fv : Value} {vs : List Value} {mvs : List MV} {r : MV × List Nat} {Q : Value → Shared → Prop} (h : pcallB fv mvs = some r) (hv : Sims vs mvs) (ho : ∀ k ∈ r.2, k ≤ sizeLine) (hQ : ∀ v' tk, Sim v' r.1 → Q v' { s with toks := tk }) : wpAny (model prog w) A (PySem.call fv vs) Q E s := by
  cases fv with
  | type t =>
    refine bnd (show (as1 mvs).bind (pcallT t) = some r from h) fun v hv1 h => ?_
    cases as1_eq hv1
    obtain ⟨u, rfl, hu⟩ := sims1 hv
    refine cnd2 h (fun et h => ?_) fun _ h => cnd h fun et h => mpd h fun i hi e => ?_
    · cases eq_of_beq et
      cases v with
      | int i => cases (Option.some.inj h); obtain ⟨t, rfl⟩ := hu; exact call_type_of (typeIs_int s _ t) (by decide) (hQ _ s.toks rfl)
      | str l => cases (Option.some.inj h); obtain ⟨t, rfl⟩ := hu; exact call_type_of (typeIs_str s _ t) (by decide) (hQ _ s.toks rfl)
      | _ => exact nomatch (show Option.none = some r from h)
    · cases eq_of_beq et
      cases asInt_eq hi; subst e; obtain ⟨t, rfl⟩ := hu
      exact call_int_int (hQ _ s.toks ⟨_, rfl⟩)
  | builtin t =>
    refine cnd2 (show cond (t == "len") (pcallL mvs) (cond (t == "isinstance") ((as2 mvs).bind pcallI) Option.none) = some r from h) (fun et h => bnd h fun v hv1 h => mpd h fun l hl e => ?_) fun _ h => cnd h fun et h => bnd h fun p hp h => bnd h fun l hl h => bnd h fun x hx h => bnd h fun t' ht h => cnd h fun es h => ?_
    · cases eq_of_beq et
      cases as1_eq hv1; cases asStr_eq hl; subst e
      obtain ⟨u, rfl, t, rfl⟩ := sims1 hv
      have hl := ho _ (List.mem_singleton.mpr rfl)
      rw [sizeLine_eq] at hl
      refine P.len_str (by rw [str_len]; omega) ?_
      rw [str_len]
      exact hQ _ _ ⟨_, rfl⟩
    · cases eq_of_beq et
      cases eq_of_beq es
      cases (Option.some.inj h)
      have e1 := as2_eq hp
      have e2 := asStr_eq hl
      have e3 := asVal_eq hx
      have e4 := asType_eq ht
      rw [e2, e3, e4] at e1
      subst e1
      cases hv with | cons h1 h2 => cases h2 with | cons h3 h4 => cases h4; obtain ⟨t, rfl⟩ := h1; cases h3; exact IsiPair.str_str (hQ _ s.toks rfl)
  | _ => exact nomatch (show Option.none = some r from h)
theorem clip_some (a n : Nat) : max 0 (min (if ((a : Nat) : Int) < 0 then (a : Int) + n else (a : Int)) (n : Int)) = ((min a n : Nat) : Int) := by
  have : ¬ ((a : Int) < 0) := by omega
  rw [if_neg this]; omega
theorem cut_range (l : List Nat) (a b : Nat) (hb : b ≤ l.length) : ((List.range (b - a)).map (a + ·)).filterMap (l[·]?) = (l.take b).drop a := by
  rw [List.filterMap_map]
  apply List.ext_getElem?
  intro i
  have key : ∀ (k : Nat), k ≤ b - a → ((List.range k).filterMap ((l[·]?) ∘ (a + ·))) = (l.take (a + k)).drop a := by
    intro k
    induction k with
    | zero => intro _; simp
    | succ k ih =>
      intro hk
      rw [List.range_succ, List.filterMap_append, ih (by omega)]
      have hlt : a + k < l.length := by omega
      have e1 : l.take (a + (k + 1)) = l.take (a + k) ++ [l[a + k]] := by
        rw [show a + (k + 1) = (a + k) + 1 from rfl, List.take_add_one, List.getElem?_eq_getElem hlt]; rfl
      rw [e1, List.drop_append_of_le_length (by rw [List.length_take]; omega)]
      simp [List.getElem?_eq_getElem hlt]
  by_cases h : a ≤ b
  · rw [key (b - a) (Nat.le_refl _), show a + (b - a) = b from by omega]
  · have : b - a = 0 := by omega
    rw [this, List.drop_eq_nil_of_le (by rw [List.length_take]; omega)]; rfl
theorem slice_picked (l : List Nat) (a b : Option (Nat × Tok)) : ∃ A B, slicePicked ⟨l.toArray⟩ (a.map fun p => ((p.1 : Int), p.2)) (b.map fun p => ((p.1 : Int), p.2)) none = (List.range (B - A)).map (A + ·) ∧ B ≤ l.length ∧ pcut l (a.map (·.1)) (b.map (·.1)) = (l.take B).drop A := by
  unfold slicePicked Builtin.Str.strSliceIndices pcut
  simp only [str_len, Option.map_none, Option.getD_none]
  have t : ∀ k, l.take (min k l.length) = l.take k := fun k => by
    by_cases h : k ≤ l.length
    · rw [Nat.min_eq_left h]
    · rw [Nat.min_eq_right (by omega), List.take_of_length_le (Nat.le_refl _), List.take_of_length_le (by omega)]
  have d : ∀ (k : Nat) (m : List Nat), m.length ≤ l.length → m.drop (min k l.length) = m.drop k := fun k m hm => by
    by_cases h : k ≤ l.length
    · rw [Nat.min_eq_left h]
    · rw [Nat.min_eq_right (by omega), List.drop_eq_nil_of_le hm, List.drop_eq_nil_of_le (by omega)]
  cases a with
  | none =>
    cases b with
    | none => exact ⟨0, l.length, sliceRange_one 0 l.length, Nat.le_refl _, by simp⟩
    | some b =>
      simp only [Option.map_none, Option.map_some, Option.getD_none, Option.getD_some, show ((1 : Int) > 0) = True from by simp, if_true, clip_some]
      exact ⟨0, min b.1 l.length, sliceRange_one _ _, Nat.min_le_right _ _, by rw [t]⟩
  | some a =>
    cases b with
    | none =>
      simp only [Option.map_none, Option.map_some, Option.getD_none, Option.getD_some, show ((1 : Int) > 0) = True from by simp, if_true, clip_some]
      exact ⟨min a.1 l.length, l.length, sliceRange_one _ _, Nat.le_refl _, (d _ _ (by rw [List.length_take]; omega)).symm⟩
    | some b =>
      simp only [Option.map_some, Option.getD_some, show ((1 : Int) > 0) = True from by simp, if_true, clip_some]
      exact ⟨min a.1 l.length, min b.1 l.length, sliceRange_one _ _, Nat.min_le_right _ _, by rw [t, d _ _ (by rw [List.length_take]; omega)]⟩
theorem wp_slice {value : Expr} {lo hi : Option Expr} {p : Pos} {l : List Nat} {t : Tok} {a : Addr} {A' B' : Option (Nat × Tok)} {Q : Value → Shared → Prop}
    (hs : s.heap.IsSlice a (A'.map fun p => ((p.1 : Int), p.2)) (B'.map fun p => ((p.1 : Int), p.2)) none) (hl : l.length ≤ sizeLine) (hQ : ∀ v' tk, Sim v' (.str (pcut l (A'.map (·.1)) (B'.map (·.1)))) → Q v' { s with toks := tk }) :
    wpAny (model prog w) A (subscriptTail value (.Slice lo hi none p) (.str ⟨l.toArray⟩ t) (.ref a)) Q E s := by
  refine tail_of_ItemOn ⟨"str", _, F.slot_str_getitem.lookup, typeIs_str s _ t, wpAny_getItem_str_slice hs rfl ?_⟩ rfl (fun r => by cases value <;> rfl)
  obtain ⟨A₁, B₁, e1, e2, e3⟩ := slice_picked l A' B'
  unfold sliceMade
  rw [e1]
  have ecps : ∀ i : Nat, (⟨l.toArray⟩ : Str).cps[i]? = l[i]? := fun i => by simp
  simp only [ecps]
  rw [cut_range l A₁ B₁ e2]
  rw [e3] at hQ
  split
  · rename_i q
    have hlen := (Bool.and_eq_true_iff.mp q).2
    rw [List.length_map, List.length_range, str_len, beq_iff_eq] at hlen
    have e : (l.take B₁).drop A₁ = l := by
      by_cases hz : l.length = 0
      · have : l = [] := List.length_eq_zero_iff.mp hz
        subst this; simp
      · have hA : A₁ = 0 := by omega
        have hB : B₁ = l.length := by omega
        subst hA hB; simp
    exact hQ _ _ ⟨t, by rw [e]⟩
  · refine ⟨?_, hQ _ _ ⟨_, rfl⟩⟩
    rw [str_len, List.length_drop, List.length_take]
    omega
theorem wp_iadd {v u : Value} {a b : MV} {r : MV × List Nat} {Q : Value → Shared → Prop} (h : padd a b = some r) (hv : Sim v a) (hu : Sim u b) (ho : ∀ k ∈ r.2, k ≤ sizeLine) (hQ : ∀ v' tk, Sim v' r.1 → Q v' { s with toks := tk }) : wpAny (model prog w) A (inplaceOp .Add v u) Q E s := by
  cases a with
  | str l =>
    refine mpd (show (asStr b).map (fun m => (MV.str (l ++ m), [l.length + m.length])) = some r from h) fun m hm e => ?_
    cases asStr_eq hm; subst e
    obtain ⟨t, rfl⟩ := hv; obtain ⟨t', rfl⟩ := hu
    refine PyProof.Rows.iadd_str (fun t' tk => ?_) (by rw [str_len, str_len]; exact ho _ (List.mem_singleton.mpr rfl))
    rw [str_app]; exact hQ _ _ ⟨_, rfl⟩
  | int i =>
    refine mpd (show (asInt b).map (fun j => (MV.int (i + j), [])) = some r from h) fun m hm e => ?_
    cases asInt_eq hm; subst e
    obtain ⟨t, rfl⟩ := hv; obtain ⟨t', rfl⟩ := hu
    exact P.iadd_int (hQ _ _ ⟨_, rfl⟩)
  | _ => exact nomatch (show Option.none = some r from h)
theorem wp_bin {op : Operator} {v u : Value} {a b : MV} {r : MV × List Nat} {Q : Value → Shared → Prop} (h : pbin op a b = some r) (hv : Sim v a) (hu : Sim u b) (ho : ∀ k ∈ r.2, k ≤ sizeLine) (hQ : ∀ v' tk, Sim v' r.1 → Q v' { s with toks := tk }) : wpAny (model prog w) A (binaryOp op v u) Q E s := by
  cases op with
  | Add => cases a with
    | str l =>
      refine mpd (show (asStr b).map (fun m => (MV.str (l ++ m), [l.length + m.length])) = some r from h) fun m hm e => ?_
      cases asStr_eq hm; subst e
      obtain ⟨t, rfl⟩ := hv; obtain ⟨t', rfl⟩ := hu
      refine PyProof.Rows.add_str (fun t' tk => ?_) (by rw [str_len, str_len]; exact ho _ (List.mem_singleton.mpr rfl))
      rw [str_app]; exact hQ _ _ ⟨_, rfl⟩
    | int i =>
      refine mpd (show (asInt b).map (fun j => (MV.int (i + j), [])) = some r from h) fun m hm e => ?_
      cases asInt_eq hm; subst e
      obtain ⟨t, rfl⟩ := hv; obtain ⟨t', rfl⟩ := hu
      exact P.add_int (hQ _ _ ⟨_, rfl⟩)
    | _ => exact nomatch (show Option.none = some r from h)
  | Sub =>
    refine bnd h fun i hi h => mpd h fun j hj e => ?_
    cases asInt_eq hi; cases asInt_eq hj; subst e
    obtain ⟨t, rfl⟩ := hv; obtain ⟨t', rfl⟩ := hu
    exact P.sub_int (hQ _ _ ⟨_, rfl⟩)
  | _ => exact nomatch (show Option.none = some r from h)
end
end Mine
end -- B2
section -- B3
set_option maxRecDepth 100000
namespace Mine
theorem all_app {a b : List Nat} (h : ∀ k ∈ a ++ b, k ≤ sizeLine) : (∀ k ∈ a, k ≤ sizeLine) ∧ ∀ k ∈ b, k ≤ sizeLine := ⟨fun k hk => h k (List.mem_append_left _ hk), fun k hk => h k (List.mem_append_right _ hk)⟩

section
variable {ε : Type} {I : Face ε} {prog : Program} {w : World} {A : Around} {env : Env} {E : Value → Shared → Prop} {R : Loc → ε → Shared → Prop}

theorem star_plain {e : Expr} {rest : List Expr} (h : isStar e = false) : starEach (e :: rest) env = (false, eval e env) :: starEach rest env := by
  cases e <;> first | rfl | exact nomatch (show true = false from h)
theorem behind_plain {op : CmpOp} {r : Expr} (h : isSet r = false) : behindInMarks op r = false := by
  cases r <;> first | rfl | exact nomatch (show true = false from h)
theorem plain_pevs : ∀ (n : Nat) (es : List Expr) (loc : Loc) (x : ε) (pos : Pos) {r}, pevs I n es loc x = some r → (backTo pos (starEach es env)).any (·.1) = false
  | 0, _, _, _, _, r, h => nomatch (show Option.none = some r from h)
  | n + 1, [], _, _, _, _, _ => rfl
  | n + 1, e :: r, loc, x, pos, t, h => by
    refine cnd' (show cond (isStar e) Option.none ((pev I n e loc x).bind fun a => (pevs I n r loc a.2.1).map fun b => (a.1 :: b.1, b.2.1, a.2.2 ++ b.2.2)) = some t from h) fun hs h => bnd h fun a ha h => mpd h fun b hb _ => ?_
    rw [star_plain hs]
    show (false || (backTo pos (starEach r env)).any (·.1)) = false
    rw [plain_pevs n r _ _ pos hb]; rfl
theorem strElts_ok (ok : FaceOk I prog w A env E R) {pos : Pos} : ∀ (elts : List Expr) (ys : List (List Nat)), strElts elts = some ys → ∀ (loc : Loc) (x : ε) (s : Shared) (Q : List Value → Shared → Prop), R loc x s → (∀ vs s', StrsAre vs (ys.map fun l => (⟨l.toArray⟩ : Str)) → vs.length ≤ elts.length → R loc x s' → Q vs s') →
    wpAny (model prog w) A (spliced (backTo pos (starEach elts env))) Q E s
  | [], ys, h, loc, x, s, Q, hR, hQ => by
    cases (Option.some.inj (show some [] = some ys from h))
    exact wpAny_items_nil (hQ _ _ StrsAre.nil (Nat.le_refl _) hR)
  | e :: r, ys, h, loc, x, s, Q, hR, hQ => by
    refine bnd (show (asTxt e).bind (fun t => (strElts r).map fun r => t.cps.toList :: r) = some ys from h) fun st hst h => mpd h fun zs hr e => ?_
    obtain ⟨k, p, rfl⟩ := asTxt_eq hst
    subst e
    refine wpAny_items_cons (wpAny_Constant_str ?_)
    refine strElts_ok ok r zs hr loc x _ _ (ok.toks hR) fun vs s' hv hl hR' => ?_
    refine hQ _ _ ?_ (Nat.succ_le_succ hl) hR'
    have : (⟨st.cps.toList.toArray⟩ : Str) = st := by simp
    rw [List.map_cons, this]
    exact StrsAre.cons _ _ hv

/-- what the reckoners of one depth must say -/
structure POk (P : PV ε) (prog : Program) (w : World) (A : Around) (env : Env) (E : Value → Shared → Prop) (R : Loc → ε → Shared → Prop) : Prop where
  ev : ∀ e loc x r, P.ev e loc x = some r → (∀ k ∈ r.2.2, k ≤ sizeLine) → ∀ s (Q : Value → Shared → Prop), R loc x s → (∀ v' s', Sim v' r.1 → R loc r.2.1 s' → Q v' s') → wpAny (model prog w) A (eval e env) Q E s
  evs : ∀ es loc x r pos, P.evs es loc x = some r → (∀ k ∈ r.2.2, k ≤ sizeLine) → ∀ s (Q : List Value → Shared → Prop), R loc x s → (∀ vs' s', Sims vs' r.1 → R loc r.2.1 s' → Q vs' s') → wpAny (model prog w) A (spliced (backTo pos (starEach es env))) Q E s
  part : ∀ e loc x r, P.part e loc x = some r → (∀ k ∈ r.2.2, k ≤ sizeLine) → ∀ s (Q : Value → Shared → Prop), R loc x s → (∀ (p : Option (Nat × Tok)) s', p.map (·.1) = r.1 → R loc r.2.1 s' → Q (partValue (p.map fun q => ((q.1 : Int), q.2))) s') → wpAny (model prog w) A (evalPart e env) Q E s
  test : ∀ e loc x r, P.test e loc x = some r → (∀ k ∈ r.2.2, k ≤ sizeLine) → ∀ s (Q : Bool → Shared → Prop), R loc x s → (∀ s', R loc r.2.1 s' → Q r.1 s') → wpAny (model prog w) A (isTrue e env (eval e env)) Q E s
  all : ∀ op vs loc x r, P.all op vs loc x = some r → (∀ k ∈ r.2.2, k ≤ sizeLine) → ∀ s (Q : Bool → Shared → Prop), R loc x s → (∀ s', R loc r.2.1 s' → Q r.1 s') → wpAny (model prog w) A (allTrue op vs env) Q E s
  star : ∀ es loc x r pos, P.evs es loc x = some r → (backTo pos (starEach es env)).any (·.1) = false
section
variable {P : PV ε} {loc : Loc} {x : ε} {s : Shared}
theorem inTexts_ok (ok : FaceOk I prog w A env E R) (PO : POk P prog w A env E R) {l : Expr} {op : CmpOp} {elts : List Expr} {r : Bool × ε × List Nat} {Q : Value → Shared → Prop} {k : Nat} {p : Pos} (h : inTexts P l op elts loc x = some r) (ho : ∀ k ∈ r.2.2, k ≤ sizeLine) (hR : R loc x s) (hQ : ∀ s', R loc r.2.1 s' → Q (.bool r.1) s') :
    op = .In ∧ wpAny (model prog w) A (eval l env) (fun a s₁ => wpAny (model prog w) A (eval (.Tuple elts k p) env) (fun b s₂ => wpAny (model prog w) A (compareOp .In a b) Q E s₂) E s₁) E s := by
  cases op <;> first | exact nomatch (show Option.none = some r from h) | skip
  refine ⟨rfl, cnd h fun hle h => bnd h fun ys hys h => bnd h fun a ha h => mpd h fun t ht e => ?_⟩
  subst e
  refine PO.ev _ _ _ _ ha ho _ _ hR fun v' s' hv hR' => ?_
  rw [asStr_eq ht] at hv
  obtain ⟨t', rfl⟩ := hv
  refine wpAny_Tuple (strElts_ok ok _ _ hys _ _ _ _ hR' fun vs s₂ hvs hlen hR₂ => ⟨?_, ?_⟩)
  · have := Nat.le_of_ble_eq_true hle
    rw [sizeLine_eq]; omega
  · refine in_tuple_strs (items := vs.toArray) ⟨_, Heap.get?_push_size _ rfl, rfl, 0, rfl⟩ (by simpa using hvs) ?_
    have e : ((ys.map fun l => (⟨l.toArray⟩ : Str)).any (· == ⟨t.toArray⟩)) = ys.any (· == t) := by
      rw [List.any_map]
      congr 1
      funext l
      exact str_beq l t
    rw [e]
    exact hQ _ (ok.push hR₂ rfl)
theorem evCall_ok (ok : FaceOk I prog w A env E R) (PO : POk P prog w A env E R) {y : Str} {p pos : Pos} {args : List Expr} {r : MV × ε × List Nat} {Q : Value → Shared → Prop} (nil : ∀ loc x t, P.evs [] loc x = some t → t = ([], x, [])) (star : ∀ e es loc x t, P.evs (e :: es) loc x = some t → isStar e = false)
    (h : evCall I P y args loc x = some r) (ho : ∀ k ∈ r.2.2, k ≤ sizeLine) (hR : R loc x s) (hQ : ∀ v' s', Sim v' r.1 → R loc r.2.1 s' → Q v' s') : wpAny (model prog w) A (eval (.Call (.Name y p) args [] pos) env) Q E s := by
  refine bnd h fun fv hf h => bnd h fun a hvs h => ?_
  have key : ∀ (ho : ∀ k ∈ a.2.2, k ≤ sizeLine) (hcall : ∀ s1 vs', R loc a.2.1 s1 → Sims vs' a.1 → wpAny (model prog w) A (PySem.call fv vs') Q E s1), wpAny (model prog w) A (eval (.Call (.Name y p) args [] pos) env) Q E s := by
    intro ho hcall
    refine wpAny_Call_ofName (ok.gname hR hf ?_)
    have hplain : ((backTo pos (starEach args env)).any (·.1) || ([] : List (Option Str × Sem Value)).any (·.1.isNone)) = false := by
      rw [PO.star args _ _ _ pos hvs]; rfl
    refine callWith_of (P := fun h => ∃ k, (k = Keeper.frame ∨ k = Keeper.machine ∨ k = Keeper.boundFrame) ∧ Looks (model prog w) h (keeperOf fv) k) hplain (fun h' y => y) ?_
    have fin : wpAny (model prog w) A (spliced (backTo pos (starEach args env))) (fun vs' s1 => (∃ k, (k = Keeper.frame ∨ k = Keeper.machine ∨ k = Keeper.boundFrame) ∧ Looks (model prog w) s1.heap (keeperOf fv) k) ∧ wpAny (model prog w) A (PySem.call fv ([] ++ vs')) Q E s1) E s :=
      PO.evs _ _ _ _ pos hvs ho _ _ hR fun vs' s1 hv1 hR1 => ⟨ok.keeper hR1 hf, hcall _ _ hR1 hv1⟩
    cases args with
    | nil =>
      cases nil _ _ _ hvs
      exact evalArgs_nil3 ⟨ok.keeper hR hf, hcall _ _ hR .nil⟩
    | cons e r =>
      have hs := star _ _ _ _ _ hvs
      rw [star_plain hs] at fin ⊢
      exact Calls.evalArgs_plain fin
  cases hb : pcallB fv a.1 with
  | some u =>
    rw [hb] at h
    cases (Option.some.inj h)
    obtain ⟨ho1, ho2⟩ := all_app ho
    exact key ho1 fun s1 vs' hR1 hv1 => wp_callB hb hv1 ho2 fun v' tk hv => hQ _ _ hv (ok.toks hR1)
  | none =>
    rw [hb] at h
    refine mpd h fun q hc e => ?_
    subst e
    exact key ho fun s1 vs' hR1 hv1 => ok.call hR1 hf hc hv1 hQ
theorem evCmp_ok (PO : POk P prog w A env E R) {l r : Expr} {op : CmpOp} {t : MV × ε × List Nat} {Q : Value → Shared → Prop} {pos : Pos} (h : evCmp P l op r loc x = some t) (ho : ∀ k ∈ t.2.2, k ≤ sizeLine) (hR : R loc x s) (hQ : ∀ v' s', Sim v' t.1 → R loc t.2.1 s' → Q v' s') : wpAny (model prog w) A (eval (.Compare l [op] [r] pos) env) Q E s := by
  refine cnd' h fun hs h => bnd h fun a ha h => bnd h fun b hb h => mpd h fun c hc e => ?_
  subst e
  obtain ⟨ho1, ho2⟩ := all_app ho
  exact wpAny_Compare1 (PO.ev _ _ _ _ ha ho1 _ _ hR fun v1 s1 hv1 hR1 => PO.ev _ _ _ _ hb ho2 _ _ hR1 fun v2 s2 hv2 hR2 => wp_cmp hc hv1 hv2 fun v' hv => hQ _ _ hv hR2) (behind_plain hs)
theorem evBool_ok (ok : FaceOk I prog w A env E R) (PO : POk P prog w A env E R) {op : BoolOp} {p : Expr × Expr} {t : MV × ε × List Nat} {Q : Value → Shared → Prop} {pos : Pos} (h : evBool P op p loc x = some t) (ho : ∀ k ∈ t.2.2, k ≤ sizeLine) (hR : R loc x s) (hQ : ∀ v' s', Sim v' t.1 → R loc t.2.1 s' → Q v' s') : wpAny (model prog w) A (eval (.BoolOp op [p.1, p.2] pos) env) Q E s := by
  refine bnd h fun a ha h => bnd h fun u hu h => ?_
  obtain ⟨u1, u2⟩ := u
  have go : ∀ q : Option (MV × ε × List Nat), q = ((P.ev p.2 loc a.2.1).map fun b => (b.1, b.2.1, a.2.2 ++ (u2 ++ b.2.2))) → q = some t → (∀ k ∈ a.2.2, k ≤ sizeLine) ∧ (∀ k ∈ u2, k ≤ sizeLine) ∧ ∀ s', R loc a.2.1 s' → wpAny (model prog w) A (eval p.2 env) Q E s' := fun q e h => mpd (e ▸ h) fun b hb e => by
    subst e
    obtain ⟨ho1, ho2⟩ := all_app ho
    obtain ⟨ho3, ho2⟩ := all_app ho2
    exact ⟨ho1, ho3, fun s' hR' => PO.ev _ _ _ _ hb ho2 _ _ hR' hQ⟩
  have st : some (a.1, a.2.1, a.2.2 ++ u2) = some t → (∀ k ∈ a.2.2, k ≤ sizeLine) ∧ (∀ k ∈ u2, k ≤ sizeLine) ∧ ∀ v' s', Sim v' a.1 → R loc a.2.1 s' → Q v' s' := fun e => by
    cases (Option.some.inj e)
    obtain ⟨ho1, ho2⟩ := all_app ho
    exact ⟨ho1, ho2, hQ⟩
  cases op with
  | And => cases u1 with
    | true =>
      obtain ⟨h1, h2, k⟩ := go _ rfl h
      exact wpAny_And2 (PO.ev _ _ _ _ ha h1 _ _ hR fun v1 s1 hv1 hR1 => wp_truth hu hv1 h2 fun tk => k _ (ok.toks hR1))
    | false =>
      obtain ⟨h1, h2, k⟩ := st h
      exact wpAny_And2 (PO.ev _ _ _ _ ha h1 _ _ hR fun v1 s1 hv1 hR1 => wp_truth hu hv1 h2 fun tk => k _ _ hv1 (ok.toks hR1))
  | Or => cases u1 with
    | false =>
      obtain ⟨h1, h2, k⟩ := go _ rfl h
      exact wpAny_Or2 (PO.ev _ _ _ _ ha h1 _ _ hR fun v1 s1 hv1 hR1 => wp_truth hu hv1 h2 fun tk => k _ (ok.toks hR1))
    | true =>
      obtain ⟨h1, h2, k⟩ := st h
      exact wpAny_Or2 (PO.ev _ _ _ _ ha h1 _ _ hR fun v1 s1 hv1 hR1 => wp_truth hu hv1 h2 fun tk => k _ _ hv1 (ok.toks hR1))
theorem evCore_ok (ok : FaceOk I prog w A env E R) (PO : POk P prog w A env E R) (nil : ∀ loc x t, P.evs [] loc x = some t → t = ([], x, [])) (star : ∀ e es loc x t, P.evs (e :: es) loc x = some t → isStar e = false) {e : Expr} {t : MV × ε × List Nat} {Q : Value → Shared → Prop} (h : evCore I P e loc x = some t) (ho : ∀ k ∈ t.2.2, k ≤ sizeLine) (hR : R loc x s)
    (hQ : ∀ v' s', Sim v' t.1 → R loc t.2.1 s' → Q v' s') : wpAny (model prog w) A (eval e env) Q E s := by
  cases e with
  | Constant c k p =>
    refine mpd (show (pconst c).map (fun v => (v, x, [])) = some t from h) fun v hv e => ?_
    subst e
    cases c with
    | none => cases (Option.some.inj hv); exact wpAny_Constant_none (hQ _ _ rfl hR)
    | bool b => cases (Option.some.inj hv); exact wpAny_Constant_bool (hQ _ _ rfl hR)
    | int i => cases (Option.some.inj hv); exact wpAny_Constant_int (hQ _ _ ⟨_, rfl⟩ (ok.toks hR))
    | str u => cases (Option.some.inj hv); exact wpAny_Constant_str (hQ _ _ ⟨s.toks, by simp⟩ (ok.toks hR))
    | _ => exact nomatch (show Option.none = some v from hv)
  | Name y p =>
    have h : (match loc.lookup y with
      | some v => some (v, x, [])
      | Option.none => (I.gfun y).map fun v => (.val v, x, [])) = some t := h
    cases hl : loc.lookup y with
    | some u => rw [hl] at h; cases (Option.some.inj h); exact ok.name hR hl fun v' hv => hQ _ _ hv hR
    | none =>
      rw [hl] at h
      exact mpd h fun u hg e => by subst e; exact ok.gname hR hg (hQ _ _ rfl hR)
  | Attribute v a p =>
    refine bnd (show (asName v).bind (fun y => (I.selfV y).bind fun _ => (I.getA x y a).map fun v => (v, x, [])) = some t from h) fun y hy h => bnd h fun ob hl h => mpd h fun u hg e => ?_
    obtain ⟨p', rfl⟩ := asName_eq hy
    subst e
    exact Attribute_name (ok.sname hR hl (ok.get hR hl hg hQ))
  | Compare l ops rs p =>
    refine bnd (show (as1 ops).bind (fun op => (as1 rs).bind fun r => match asTuple r with
      | some elts => (inTexts P l op elts loc x).map fun a => (.bool a.1, a.2.1, a.2.2)
      | Option.none => evCmp P l op r loc x) = some t from h) fun op hop h => bnd h fun r hr g => ?_
    clear h
    cases as1_eq hop
    cases as1_eq hr
    cases ht : asTuple r with
    | some elts =>
      rw [ht] at g
      refine mpd g fun a ha e => ?_
      subst e
      obtain ⟨k, q, rfl⟩ := asTuple_eq ht
      obtain ⟨rfl, z⟩ := inTexts_ok (Q := Q) ok PO (k := k) (p := q) ha ho hR fun s' hR' => hQ _ _ rfl hR'
      exact wpAny_Compare1 z rfl
    | none => rw [ht] at g; exact evCmp_ok PO g ho hR hQ
  | BoolOp op vs p =>
    refine bnd (show (as2 vs).bind (fun p => evBool P op p loc x) = some t from h) fun q hq g => ?_
    cases as2_eq hq
    exact evBool_ok ok PO g ho hR hQ
  | IfExp c b o p =>
    refine bnd (show (P.test c loc x).bind (fun a => (P.ev (cond a.1 b o) loc a.2.1).map fun c => (c.1, c.2.1, a.2.2 ++ c.2.2)) = some t from h) fun a ha h => mpd h fun r hr e => ?_
    subst e
    obtain ⟨ho1, ho2⟩ := all_app ho
    refine wpAny_IfExp (PO.test _ _ _ _ ha ho1 _ _ hR fun s1 hR1 => ?_)
    have z := PO.ev _ _ _ _ hr ho2 _ _ hR1 hQ
    revert z
    cases a.1 <;> exact fun z => z
  | UnaryOp op v p =>
    cases op <;> first | exact nomatch (show Option.none = some t from h) | skip
    refine bnd (show (P.ev v loc x).bind (fun a => (asInt a.1).map fun i => (.int (-i), a.2.1, a.2.2)) = some t from h) fun a ha h => mpd h fun i hi e => ?_
    subst e
    refine wpAny_UnaryOp (PO.ev _ _ _ _ ha ho _ _ hR fun v1 s1 hv1 hR1 => ?_)
    rw [asInt_eq hi] at hv1
    obtain ⟨t, rfl⟩ := hv1
    exact PySem.P.neg_int (hQ _ _ ⟨_, rfl⟩ (ok.toks hR1))
  | BinOp l op r p =>
    refine bnd (show (P.ev l loc x).bind (fun a => (P.ev r loc a.2.1).bind fun b => (pbin op a.1 b.1).map fun c => (c.1, b.2.1, a.2.2 ++ (b.2.2 ++ c.2))) = some t from h) fun a ha h => bnd h fun b hb h => mpd h fun c hc e => ?_
    subst e
    obtain ⟨ho1, ho2⟩ := all_app ho
    obtain ⟨ho2, ho3⟩ := all_app ho2
    exact wpAny_BinOp (PO.ev _ _ _ _ ha ho1 _ _ hR fun v1 s1 hv1 hR1 => PO.ev _ _ _ _ hb ho2 _ _ hR1 fun v2 s2 hv2 hR2 => wp_bin hc hv1 hv2 ho3 fun v' tk hv => hQ _ _ hv (ok.toks hR2))
  | Subscript v k p =>
    refine bnd (show (asSlice k).bind (fun q => evSub P v q loc x) = some t from h) fun q hq h => bnd h fun a ha h => bnd h fun l hl h => bnd h fun b hb h => mpd h fun c hc e => ?_
    obtain ⟨p', rfl⟩ := asSlice_eq hq
    subst e
    obtain ⟨ho1, ho2⟩ := all_app ho
    obtain ⟨ho2, ho3⟩ := all_app ho2
    obtain ⟨ho3, ho4⟩ := all_app ho3
    refine Subscript_ (PO.ev _ _ _ _ ha ho1 _ _ hR fun v1 s1 hv1 hR1 => ?_)
    rw [asStr_eq hl] at hv1
    obtain ⟨t, rfl⟩ := hv1
    refine wpAny_Slice (PO.part _ _ _ _ hb ho2 _ _ hR1 fun A' s2 hA hR2 => PO.part _ _ _ _ hc ho3 _ _ hR2 fun B' s3 hB hR3 => ?_)
    rw [evalPart_none]
    refine wpAny_pure (wp_slice (A' := A') (B' := B') ⟨_, Heap.get?_push_size _ rfl, rfl, rfl⟩ (ho4 _ (List.mem_singleton.mpr rfl)) fun v' tk hv => ?_)
    rw [hA, hB] at hv
    exact hQ _ _ hv (ok.toks (ok.push hR3 rfl))
  | Call f args kws p =>
    refine bnd (show (asName f).bind (fun y => match kws with
      | [] => evCall I P y args loc x
      | _ :: _ => Option.none) = some t from h) fun y hy g => ?_
    obtain ⟨p', rfl⟩ := asName_eq hy
    cases kws with
    | nil => exact evCall_ok ok PO nil star g ho hR hQ
    | cons _ _ => exact nomatch (show Option.none = some t from g)
  | _ => exact nomatch (show Option.none = some t from h)
theorem tVal_ok (ok : FaceOk I prog w A env E R) (PO : POk P prog w A env E R) {e : Expr} {t : Bool × ε × List Nat} {Q : Bool → Shared → Prop} (he : isTrue e env (eval e env) = (do let v ← eval e env; standAt e.pos; holding [v] (truthy v))) (h : tVal P e loc x = some t) (ho : ∀ k ∈ t.2.2, k ≤ sizeLine) (hR : R loc x s) (hQ : ∀ s', R loc t.2.1 s' → Q t.1 s') : wpAny (model prog w) A (isTrue e env (eval e env)) Q E s := by
  refine bnd h fun a ha h => mpd h fun c hc e => ?_
  subst e
  obtain ⟨ho1, ho2⟩ := all_app ho
  exact wpAny_isTrue_value (PO.ev _ _ _ _ ha ho1 _ _ hR fun v1 s1 hv1 hR1 => wp_truth hc hv1 ho2 fun tk => hQ _ (ok.toks hR1)) he
theorem tCore_ok (ok : FaceOk I prog w A env E R) (PO : POk P prog w A env E R) {e : Expr} {t : Bool × ε × List Nat} {Q : Bool → Shared → Prop} (h : tCore P e loc x = some t) (ho : ∀ k ∈ t.2.2, k ≤ sizeLine) (hR : R loc x s) (hQ : ∀ s', R loc t.2.1 s' → Q t.1 s') : wpAny (model prog w) A (isTrue e env (eval e env)) Q E s := by
  cases e with
  | BoolOp op vs p => exact wpAny_isTrue_BoolOp (PO.all _ _ _ _ _ h ho _ _ hR hQ)
  | UnaryOp op v p =>
    cases op <;> first | exact nomatch (show Option.none = some t from h) | skip
    refine mpd (show (P.test v loc x).map (fun a => (!a.1, a.2.1, a.2.2)) = some t from h) fun a ha e => ?_
    subst e
    exact wpAny_isTrue_Not (PO.test _ _ _ _ ha ho _ _ hR hQ)
  | IfExp _ _ _ _ => exact nomatch (show Option.none = some t from h)
  | Compare l ops rs p =>
    refine bnd (show (as1 ops).bind (fun op => (as1 rs).bind fun r => match asTuple r with
      | some elts => inTexts P l op elts loc x
      | Option.none => tCmp P l op r loc x) = some t from h) fun op hop h => bnd h fun r hr g => ?_
    clear h
    cases as1_eq hop
    cases as1_eq hr
    cases ht : asTuple r with
    | some elts =>
      rw [ht] at g
      obtain ⟨k, q, rfl⟩ := asTuple_eq ht
      obtain ⟨rfl, z⟩ := inTexts_ok (Q := fun c s' => wpAny (model prog w) A (truthy c) Q E s') ok PO (k := k) (p := q) g ho hR fun s' hR' => wpAny_truthy_bool (hQ _ hR')
      exact wpAny_isTrue_Compare1 z rfl
    | none =>
      rw [ht] at g
      refine cnd' g fun hs h => bnd h fun a ha h => bnd h fun b hb h => bnd h fun c hc h => mpd h fun d hd e => ?_
      subst e
      rw [asBoo_eq hd] at hc
      obtain ⟨ho1, ho2⟩ := all_app ho
      refine wpAny_isTrue_Compare1 (PO.ev _ _ _ _ ha ho1 _ _ hR fun v1 s1 hv1 hR1 => PO.ev _ _ _ _ hb ho2 _ _ hR1 fun v2 s2 hv2 hR2 => wp_cmp hc hv1 hv2 fun v' hv => ?_) (behind_plain hs)
      cases hv
      exact wpAny_truthy_bool (hQ _ hR2)
  | _ => exact tVal_ok ok PO rfl h ho hR hQ
theorem all_ok (PO : POk P prog w A env E R) {op : BoolOp} {vs : List Expr} {t : Bool × ε × List Nat} {Q : Bool → Shared → Prop} (h : allStep P op vs loc x = some t) (ho : ∀ k ∈ t.2.2, k ≤ sizeLine) (hR : R loc x s) (hQ : ∀ s', R loc t.2.1 s' → Q t.1 s') : wpAny (model prog w) A (allTrue op vs env) Q E s := by
  cases vs with
  | nil =>
    cases op with
    | And => cases (Option.some.inj h); exact wpAny_allTrue_And_nil (hQ _ hR)
    | Or => cases (Option.some.inj h); exact wpAny_allTrue_Or_nil (hQ _ hR)
  | cons v r => cases r with
    | nil =>
      obtain ⟨b, t⟩ := t
      cases op with
      | And =>
        refine wpAny_allTrue_And_cons (PO.test _ _ _ _ h ho _ _ hR fun s1 hR1 => ?_)
        have z := hQ _ hR1
        cases b
        · exact z
        · exact wpAny_allTrue_And_nil z
      | Or =>
        refine wpAny_allTrue_Or_cons (PO.test _ _ _ _ h ho _ _ hR fun s1 hR1 => ?_)
        have z := hQ _ hR1
        cases b
        · exact wpAny_allTrue_Or_nil z
        · exact z
    | cons y r' =>
      refine bnd (show (P.test v loc x).bind (fun a => cond (goOn op a.1) ((P.all op (y :: r') loc a.2.1).map fun b => (b.1, b.2.1, a.2.2 ++ b.2.2)) (some a)) = some t from h) fun a ha h => ?_
      obtain ⟨a1, a2⟩ := a
      cases op with
      | And => cases a1 with
        | true =>
          refine mpd h fun b hb e => ?_
          subst e
          obtain ⟨ho1, ho2⟩ := all_app ho
          exact wpAny_allTrue_And_cons (PO.test _ _ _ _ ha ho1 _ _ hR fun s1 hR1 => PO.all _ _ _ _ _ hb ho2 _ _ hR1 hQ)
        | false =>
          cases (Option.some.inj h)
          exact wpAny_allTrue_And_cons (PO.test _ _ _ _ ha ho _ _ hR fun s1 hR1 => hQ _ hR1)
      | Or => cases a1 with
        | false =>
          refine mpd h fun b hb e => ?_
          subst e
          obtain ⟨ho1, ho2⟩ := all_app ho
          exact wpAny_allTrue_Or_cons (PO.test _ _ _ _ ha ho1 _ _ hR fun s1 hR1 => PO.all _ _ _ _ _ hb ho2 _ _ hR1 hQ)
        | true =>
          cases (Option.some.inj h)
          exact wpAny_allTrue_Or_cons (PO.test _ _ _ _ ha ho _ _ hR fun s1 hR1 => hQ _ hR1)
end
theorem pok (ok : FaceOk I prog w A env E R) : ∀ n, POk (pvN I n) prog w A env E R ∧ (∀ loc x t, (pvN I n).evs [] loc x = some t → t = ([], x, [])) ∧ ∀ e es loc x t, (pvN I n).evs (e :: es) loc x = some t → isStar e = false
  | 0 => ⟨⟨(fun _ _ _ r h => nomatch (show Option.none = some r from h)), (fun _ _ _ r _ h => nomatch (show Option.none = some r from h)), (fun _ _ _ r h => nomatch (show Option.none = some r from h)), (fun _ _ _ r h => nomatch (show Option.none = some r from h)), (fun _ _ _ _ r h => nomatch (show Option.none = some r from h)), (fun _ _ _ r _ h => nomatch (show Option.none = some r from h))⟩,
      (fun _ _ r h => nomatch (show Option.none = some r from h)), (fun _ _ _ _ r h => nomatch (show Option.none = some r from h))⟩
  | n + 1 => by
    obtain ⟨PO, nil, star⟩ := pok ok n
    refine ⟨⟨?_, ?_, ?_, ?_, ?_, fun es loc x r pos h => plain_pevs (n + 1) es loc x pos h⟩, fun loc x t h => (Option.some.inj h).symm, fun e es loc x t h => cnd' h fun hs _ => hs⟩
    · intro e loc x r h ho s Q hR hQ
      have h : (match I.hookE e loc x with
        | some p => some (p.1, p.2, [])
        | Option.none => evCore I (pvN I n) e loc x) = some r := h
      cases hk : I.hookE e loc x with
      | some p => rw [hk] at h; cases (Option.some.inj h); exact ok.hookE hR hk hQ
      | none => rw [hk] at h; exact evCore_ok ok PO nil star h ho hR hQ
    · intro es loc x r pos h ho s Q hR hQ
      cases es with
      | nil => cases (Option.some.inj h); exact wpAny_items_nil (hQ _ _ .nil hR)
      | cons e es =>
        refine cnd' h fun hs h => bnd h fun a ha h => mpd h fun b hb e => ?_
        subst e
        obtain ⟨ho1, ho2⟩ := all_app ho
        exact wpAny_items_cons (PO.ev _ _ _ _ ha ho1 _ _ hR fun v1 s1 hv1 hR1 => PO.evs _ _ _ _ pos hb ho2 _ _ hR1 fun vs2 s2 hv2 hR2 => hQ _ _ (.cons hv1 hv2) hR2) (star_plain hs)
    · intro e loc x r h ho s Q hR hQ
      cases e with
      | none =>
        cases (Option.some.inj h)
        rw [evalPart_none]
        exact wpAny_pure (hQ none _ rfl hR)
      | some e =>
        rw [evalPart_some]
        refine bnd h fun a ha h => mpd h fun k hk e => ?_
        subst e
        refine PO.ev _ _ _ _ ha ho _ _ hR fun v1 s1 hv1 hR1 => ?_
        rw [asNat_eq hk] at hv1
        obtain ⟨t, rfl⟩ := hv1
        exact hQ (some (k, t)) _ rfl hR1
    · intro e loc x r h ho s Q hR hQ
      have h : (match I.hookT e loc x with
        | some p => some (p.1, p.2, [])
        | Option.none => tCore (pvN I n) e loc x) = some r := h
      cases hk : I.hookT e loc x with
      | some p => rw [hk] at h; cases (Option.some.inj h); exact ok.hookT hR hk hQ
      | none => rw [hk] at h; exact tCore_ok ok PO h ho hR hQ
    · intro op vs loc x r h ho s Q hR hQ
      exact all_ok PO h ho hR hQ
theorem psound (ok : FaceOk I prog w A env E R) (n : Nat) :
    (∀ e loc x v x' o, pev I n e loc x = some (v, x', o) → (∀ k ∈ o, k ≤ sizeLine) → ∀ s (Q : Value → Shared → Prop), R loc x s → (∀ v' s', Sim v' v → R loc x' s' → Q v' s') → wpAny (model prog w) A (eval e env) Q E s) ∧
    (∀ es loc x vs x' o pos, pevs I n es loc x = some (vs, x', o) → (∀ k ∈ o, k ≤ sizeLine) → ∀ s (Q : List Value → Shared → Prop), R loc x s → (∀ vs' s', Sims vs' vs → R loc x' s' → Q vs' s') → wpAny (model prog w) A (spliced (backTo pos (starEach es env))) Q E s) ∧
    (∀ e loc x b x' o, ptest I n e loc x = some (b, x', o) → (∀ k ∈ o, k ≤ sizeLine) → ∀ s (Q : Bool → Shared → Prop), R loc x s → (∀ s', R loc x' s' → Q b s') → wpAny (model prog w) A (isTrue e env (eval e env)) Q E s) ∧ True :=
  let PO := (pok ok n).1
  ⟨fun e loc x v x' o h ho s Q hR hQ => PO.ev e loc x (v, x', o) h ho s Q hR hQ, fun es loc x vs x' o pos h ho s Q hR hQ => PO.evs es loc x (vs, x', o) pos h ho s Q hR hQ, fun e loc x b x' o h ho s Q hR hQ => PO.test e loc x (b, x', o) h ho s Q hR hQ, trivial⟩

noncomputable def FlowSim : Flow → PFlow → Prop
  | .next, .next => True
  | .brk, .brk => True
  | .cont, .cont => True
  | .ret v, .ret mv => Sim v mv
  | _, _ => False

/-- what is wanted behind the statements: the flow's end, or the raise that is left -/
noncomputable def After (prog : Program) (w : World) (A : Around) (env : Env) (E : Value → Shared → Prop) (fl : PFlow) (Q : Flow → Shared → Prop) (s : Shared) : Prop := match fl with
  | .at st => wpAny (model prog w) A (exec st env) (fun _ _ => False) E s
  | fl => ∀ f, FlowSim f fl → Q f s

theorem swaps_plain {value : Expr} {t : Expr} {n : Nat} (h : isComp value = false) : swapsWith value (some t) n env = pure false := by
  cases value <;> first | rfl | exact nomatch (show true = false from h)

/-- what the statements' reckoners of one depth must say -/
structure XOk (Y : XV ε) (prog : Program) (w : World) (A : Around) (env : Env) (E : Value → Shared → Prop) (R : Loc → ε → Shared → Prop) : Prop where
  xs : ∀ sts loc x r, Y.xs sts loc x = some r → (∀ k ∈ r.2.2.2, k ≤ sizeLine) → ∀ s (Q : Flow → Shared → Prop), R loc x s → (∀ s', R r.2.1 r.2.2.1 s' → After prog w A env E r.1 Q s') → wpAny (model prog w) A (execs sts env) Q E s
  x1 : ∀ st loc x r, Y.x1 st loc x = some r → (∀ k ∈ r.2.2.2, k ≤ sizeLine) → ∀ s (Q : Flow → Shared → Prop), R loc x s → (∀ s', R r.2.1 r.2.2.1 s' → After prog w A env E r.1 Q s') → wpAny (model prog w) A (exec st env) Q E s
section
variable {P : PV ε} {Y : XV ε} {loc : Loc} {x : ε} {s : Shared} {Q : Flow → Shared → Prop} {t : PFlow × Loc × ε × List Nat}
theorem xAsg_ok (ok : FaceOk I prog w A env E R) (PO : POk P prog w A env E R) {tg value : Expr} {pos : Pos} (hc : isComp value = false) (h : xAsg I P x tg value loc = some t) (ho : ∀ k ∈ t.2.2.2, k ≤ sizeLine) (hR : R loc x s) (hQ : ∀ s', R t.2.1 t.2.2.1 s' → After prog w A env E t.1 Q s') : wpAny (model prog w) A (exec (.Assign [tg] value pos) env) Q E s := by
  unfold xAsg at h
  cases hn : asName tg with
  | some y =>
    rw [hn] at h
    refine cnd h fun ha h => mpd h fun a hv e => ?_
    obtain ⟨p, rfl⟩ := asName_eq hn
    subst e
    exact wpAny_Assign_Name (PO.ev _ _ _ _ hv ho _ _ hR fun v1 s1 hv1 hR1 => ok.store hR1 ha hv1 fun s2 hR2 => hQ _ hR2 _ trivial) (swaps_plain hc)
  | none =>
    rw [hn] at h
    refine bnd h fun q hq h => bnd h fun a hv h => bnd h fun ob hl h => mpd h fun x₂ hs e => ?_
    obtain ⟨p, p', rfl⟩ := asAttr_eq hq
    subst e
    exact plainObj_wpAny_Assign_Attribute (PO.ev _ _ _ _ hv ho _ _ hR fun v1 s1 hv1 hR1 => ok.sname hR1 hl (ok.set hR1 hl hs hv1 fun s2 hR2 => hQ _ hR2 _ trivial)) (swaps_plain hc)
theorem xAug_ok (ok : FaceOk I prog w A env E R) (PO : POk P prog w A env E R) {tg value : Expr} {pos : Pos} (h : xAug I P x tg value loc = some t) (ho : ∀ k ∈ t.2.2.2, k ≤ sizeLine) (hR : R loc x s) (hQ : ∀ s', R t.2.1 t.2.2.1 s' → After prog w A env E t.1 Q s') : wpAny (model prog w) A (exec (.AugAssign tg .Add value pos) env) Q E s := by
  unfold xAug at h
  cases hn : asName tg with
  | some y =>
    rw [hn] at h
    refine cnd h fun ha h => bnd h fun old hl h => bnd h fun a hv h => mpd h fun r hp e => ?_
    obtain ⟨p, rfl⟩ := asName_eq hn
    subst e
    obtain ⟨ho1, ho2⟩ := all_app ho
    exact wpAny_AugAssign_Name (ok.load hR hl fun v0 hv0 => PO.ev _ _ _ _ hv ho1 _ _ hR fun v1 s1 hv1 hR1 => wp_iadd hp hv0 hv1 ho2 fun v2 tk hv2 => ok.store (ok.toks hR1) ha hv2 fun s2 hR2 => hQ _ hR2 _ trivial)
  | none =>
    rw [hn] at h
    refine bnd h fun q hq h => bnd h fun ob hl h => bnd h fun old hg h => bnd h fun a hv h => bnd h fun r hp h => mpd h fun x₂ hs e => ?_
    obtain ⟨p, p', rfl⟩ := asAttr_eq hq
    subst e
    obtain ⟨ho1, ho2⟩ := all_app ho
    exact wpAny_AugAssign_AttributeAny <| ok.sname hR hl <| ok.get hR hl hg fun v0 s0 hv0 hR0 => PO.ev _ _ _ _ hv ho1 _ _ hR0 fun v1 s1 hv1 hR1 => wp_iadd hp hv0 hv1 ho2 fun v2 tk hv2 => ok.set (ok.toks hR1) hl hs hv2 fun s2 hR2 => hQ _ hR2 _ trivial
theorem xCore_ok (ok : FaceOk I prog w A env E R) (PO : POk P prog w A env E R) (YO : XOk Y prog w A env E R) {st : Stmt} (h : xCore I P Y st loc x = some t) (ho : ∀ k ∈ t.2.2.2, k ≤ sizeLine) (hR : R loc x s) (hQ : ∀ s', R t.2.1 t.2.2.1 s' → After prog w A env E t.1 Q s') : wpAny (model prog w) A (exec st env) Q E s := by
  cases st with
  | Assign ts value p =>
    refine cnd' (show cond (isComp value) Option.none ((as1 ts).bind fun t => xAsg I P x t value loc) = some t from h) fun hc h => bnd h fun tg htg g => ?_
    cases as1_eq htg
    exact xAsg_ok ok PO hc g ho hR hQ
  | AugAssign tg op value p =>
    cases op <;> first | exact nomatch (show Option.none = some t from h) | skip
    exact xAug_ok ok PO h ho hR hQ
  | If c b o p =>
    refine bnd (show (P.test c loc x).bind (fun a => (Y.xs (cond a.1 b o) loc a.2.1).map fun r => (r.1, r.2.1, r.2.2.1, a.2.2 ++ r.2.2.2)) = some t from h) fun a ha h => mpd h fun r hr e => ?_
    subst e
    obtain ⟨ho1, ho2⟩ := all_app ho
    refine wpAny_If (PO.test _ _ _ _ ha ho1 _ _ hR fun s1 hR1 => ?_)
    have z := YO.xs _ _ _ _ hr ho2 _ Q hR1 hQ
    revert z
    cases a.1 <;> exact fun z => z
  | Pass p => cases (Option.some.inj h); exact wpAny_Pass (hQ _ hR _ trivial)
  | Break p => cases (Option.some.inj h); exact wpAny_Break (hQ _ hR _ trivial)
  | Continue p => cases (Option.some.inj h); exact wpAny_Continue (hQ _ hR _ trivial)
  | Return v p => cases v with
    | some e =>
      refine mpd (show (P.ev e loc x).map (fun a => (PFlow.ret a.1, loc, a.2.1, a.2.2)) = some t from h) fun a ha e => ?_
      subst e
      exact wpAny_Return_some (PO.ev _ _ _ _ ha ho _ _ hR fun v1 s1 hv1 hR1 => hQ _ hR1 _ hv1)
    | none => cases (Option.some.inj h); exact wpAny_Return_none (hQ _ hR _ rfl)
  | Raise a b p =>
    cases (Option.some.inj h)
    exact wpAny_mono (hQ _ hR) (fun _ _ z => z.elim) fun _ _ z => z
  | _ => exact nomatch (show Option.none = some t from h)
theorem xs_ok (YO : XOk Y prog w A env E R) {sts : List Stmt} (h : xsStep Y sts loc x = some t) (ho : ∀ k ∈ t.2.2.2, k ≤ sizeLine) (hR : R loc x s) (hQ : ∀ s', R t.2.1 t.2.2.1 s' → After prog w A env E t.1 Q s') : wpAny (model prog w) A (execs sts env) Q E s := by
  cases sts with
  | nil => cases (Option.some.inj h); exact wpAny_execs_nil (hQ _ hR _ trivial)
  | cons st r =>
    refine bnd h fun a h1 h => ?_
    obtain ⟨fl, a2⟩ := a
    cases fl with
    | next =>
      refine mpd h fun b hb e => ?_
      subst e
      obtain ⟨ho1, ho2⟩ := all_app ho
      refine wpAny_execs_cons (YO.x1 _ _ _ _ h1 ho1 _ _ hR fun s1 hR1 => ?_)
      intro f hf
      cases f <;> first | exact hf.elim | exact YO.xs _ _ _ _ hb ho2 _ _ hR1 hQ
    | brk =>
      cases (Option.some.inj h)
      refine wpAny_execs_cons (YO.x1 _ _ _ _ h1 ho _ _ hR fun s1 hR1 f hf => ?_)
      have z := hQ _ hR1
      cases f <;> first | exact hf.elim | exact z _ trivial
    | cont =>
      cases (Option.some.inj h)
      refine wpAny_execs_cons (YO.x1 _ _ _ _ h1 ho _ _ hR fun s1 hR1 f hf => ?_)
      have z := hQ _ hR1
      cases f <;> first | exact hf.elim | exact z _ trivial
    | ret v =>
      cases (Option.some.inj h)
      refine wpAny_execs_cons (YO.x1 _ _ _ _ h1 ho _ _ hR fun s1 hR1 f hf => ?_)
      have z := hQ _ hR1
      cases f <;> first | exact hf.elim | exact z _ hf
    | «at» st' =>
      cases (Option.some.inj h)
      exact wpAny_execs_cons (YO.x1 _ _ _ _ h1 ho _ _ hR fun s1 hR1 => hQ _ hR1)
end
theorem xok (ok : FaceOk I prog w A env E R) : ∀ n, XOk (xvN I n) prog w A env E R
  | 0 => ⟨(fun _ _ _ r h => nomatch (show Option.none = some r from h)), (fun _ _ _ r h => nomatch (show Option.none = some r from h))⟩
  | n + 1 => by
    have YO := xok ok n
    have PO := (pok ok n).1
    refine ⟨fun sts loc x r h ho s Q hR hQ => xs_ok YO h ho hR hQ, fun st loc x r h ho s Q hR hQ => ?_⟩
    have h : (match I.hookS st loc x with
      | some p => some (.next, p.1, p.2, [])
      | Option.none => xCore I (pvN I n) (xvN I n) st loc x) = some r := h
    cases hk : I.hookS st loc x with
    | some p => rw [hk] at h; cases (Option.some.inj h); exact ok.hookS hR hk fun s' hR' => hQ _ hR' _ trivial
    | none => rw [hk] at h; exact xCore_ok ok PO YO h ho hR hQ
theorem xsound (ok : FaceOk I prog w A env E R) (n : Nat) :
    (∀ sts loc x fl loc' x' o, pexec I n sts loc x = some (fl, loc', x', o) → (∀ k ∈ o, k ≤ sizeLine) → ∀ s (Q : Flow → Shared → Prop), R loc x s → (∀ s', R loc' x' s' → After prog w A env E fl Q s') → wpAny (model prog w) A (execs sts env) Q E s) ∧
    (∀ st loc x fl loc' x' o, pex1 I n st loc x = some (fl, loc', x', o) → (∀ k ∈ o, k ≤ sizeLine) → ∀ s (Q : Flow → Shared → Prop), R loc x s → (∀ s', R loc' x' s' → After prog w A env E fl Q s') → wpAny (model prog w) A (exec st env) Q E s) :=
  ⟨fun sts loc x fl loc' x' o h ho s Q hR hQ => (xok ok n).xs sts loc x (fl, loc', x', o) h ho s Q hR hQ, fun st loc x fl loc' x' o h ho s Q hR hQ => (xok ok n).x1 st loc x (fl, loc', x', o) h ho s Q hR hQ⟩
end
end Mine
end -- B3
section -- B4
set_option maxRecDepth 100000
namespace Mine

structure SameRest (s₀ s : Shared) : Prop where
  gens : s.gens = s₀.gens
  drawn : s.drawn = s₀.drawn
  os : s.os = s₀.os
theorem SameRest.refl (s : Shared) : SameRest s s := ⟨rfl, rfl, rfl⟩
theorem SameRest.trans {a b c : Shared} (h : SameRest a b) (k : SameRest b c) : SameRest a c := ⟨k.gens.trans h.gens, k.drawn.trans h.drawn, k.os.trans h.os⟩
theorem SameRest.put {a b : Shared} (h : SameRest a b) (hp : Heap) (tk : Nat) : SameRest a { b with heap := hp, toks := tk } := ⟨h.gens, h.drawn, h.os⟩
theorem SameRest.eq {a b : Shared} (h : SameRest a b) : b = { a with heap := b.heap, toks := b.toks } := by
  obtain ⟨h1, h2, h3, h4, h5⟩ := b
  obtain ⟨g1, g2, g3, g4, g5⟩ := a
  obtain ⟨e1, e2, e3⟩ := h
  simp only at e1 e2 e3
  subst e1 e2 e3
  rfl

noncomputable def LocRel (env : Env) (loc : Loc) (m : Str → Option Value) : Prop :=
  ∀ y mv, loc.lookup y = some mv → ∃ v, m y = some v ∧ Sim v mv ∧ env.kindOf y = some .local ∧ (y == ("__debug__" : Str)) = false

noncomputable def RF {ε : Type} (s₀ : Shared) (g : Heap) (env : Env) (L : Addr) (Led : ε → (Str → Option Value) → List (Addr × Obj) → Prop) (loc : Loc) (x : ε) (s : Shared) : Prop :=
  SameRest s₀ s ∧ ∃ m own, Fr g L s.heap m ∧ News g L s.heap own ∧ LocRel env loc m ∧ Led x m own

section
variable {ε : Type} {I : Face ε} {prog : Program} {w : World} {A : Around} {E : Value → Shared → Prop} {qual : Str} {scope : Scope} {L f : Addr} {cdv : Value} {g : Heap} {s₀ : Shared} {Led : ε → (Str → Option Value) → List (Addr × Obj) → Prop}

theorem LocRel.store {env : Env} {loc : Loc} {m : Str → Option Value} {y : Str} {v : Value} {mv : MV} (h : LocRel env loc m) (hv : Sim v mv) (hk : env.kindOf y = some .local) (hd : (y == ("__debug__" : Str)) = false) :
    LocRel env (put y mv loc) (fun z => if z = y then some v else m z) := by
  intro z u hz
  rw [lookup_put] at hz
  by_cases e : z = y
  · subst e
    rw [if_pos rfl] at hz
    cases hz
    exact ⟨v, if_pos rfl, hv, hk, hd⟩
  · rw [if_neg e] at hz
    obtain ⟨v', h1, h2⟩ := h z u hz
    exact ⟨v', by simp only [if_neg e]; exact h1, h2⟩

theorem RF.toks {env : Env} {loc : Loc} {x : ε} {s : Shared} (h : RF s₀ g env L Led loc x s) (tk : Nat) : RF s₀ g env L Led loc x { s with toks := tk } := ⟨h.1.put _ _, h.2⟩
theorem RF.push {env : Env} {loc : Loc} {x : ε} {s : Shared} {o : Obj} (h : RF s₀ g env L Led loc x s) (hf : o.isFreed = false) : RF s₀ g env L Led loc x { s with heap := s.heap.push o } := by
  obtain ⟨h1, m, own, F, N, l, d⟩ := h
  exact ⟨h1.put _ _, m, own, F.push o, fun p hp => (N.push F o hf) p (.tail _ hp), l, d⟩

structure FrameHyp (I : Face ε) (prog : Program) (w : World) (A : Around) (E : Value → Shared → Prop) (env : Env) (L : Addr) (g : Heap) (s₀ : Shared) (Led : ε → (Str → Option Value) → List (Addr × Obj) → Prop) : Prop where
  asg : ∀ y, I.asgN.contains y = true → env.kindOf y = some .local ∧ (y == ("__debug__" : Str)) = false
  led : ∀ x m own y v, I.asgN.contains y = true → Led x m own → Led x (fun z => if z = y then some v else m z) own
  self : ∀ x m own y o, Led x m own → I.selfV y = some o → m y = some o ∧ env.kindOf y = some .local ∧ (y == ("__debug__" : Str)) = false
  get : ∀ {loc x s y o a mv} {Q : Value → Shared → Prop}, RF s₀ g env L Led loc x s → I.selfV y = some o → I.getA x y a = some mv → (∀ v' s', Sim v' mv → RF s₀ g env L Led loc x s' → Q v' s') → wpAny (model prog w) A (getAttr o a true) Q E s
  set : ∀ {loc x s y o a v mv x'} {Q : Unit → Shared → Prop}, RF s₀ g env L Led loc x s → I.selfV y = some o → I.setA x y a mv = some x' → Sim v mv → (∀ s', RF s₀ g env L Led loc x' s' → Q () s') → wpAny (model prog w) A (setAttr o a v) Q E s
  hookE : ∀ {loc x s e v x'} {Q : Value → Shared → Prop}, RF s₀ g env L Led loc x s → I.hookE e loc x = some (v, x') → (∀ v' s', Sim v' v → RF s₀ g env L Led loc x' s' → Q v' s') → wpAny (model prog w) A (eval e env) Q E s
  hookS : ∀ {loc x s st loc' x'} {Q : Flow → Shared → Prop}, RF s₀ g env L Led loc x s → I.hookS st loc x = some (loc', x') → (∀ s', RF s₀ g env L Led loc' x' s' → Q .next s') → wpAny (model prog w) A (exec st env) Q E s
  hookT : ∀ {loc x s e b x'} {Q : Bool → Shared → Prop}, RF s₀ g env L Led loc x s → I.hookT e loc x = some (b, x') → (∀ s', RF s₀ g env L Led loc x' s' → Q b s') → wpAny (model prog w) A (isTrue e env (eval e env)) Q E s
  gname : ∀ {loc x s f fv pos} {Q : Value → Shared → Prop}, RF s₀ g env L Led loc x s → I.gfun f = some fv → Q fv s → wpAny (model prog w) A (eval (.Name f pos) env) Q E s
  keeper : ∀ {loc x s f fv}, RF s₀ g env L Led loc x s → I.gfun f = some fv → ∃ k, (k = Keeper.frame ∨ k = Keeper.machine ∨ k = Keeper.boundFrame) ∧ Looks (model prog w) s.heap (keeperOf fv) k
  call : ∀ {loc x s f fv vs mvs v x'} {Q : Value → Shared → Prop}, RF s₀ g env L Led loc x s → I.gfun f = some fv → I.callV fv mvs x = some (v, x') → Sims vs mvs → (∀ v' s', Sim v' v → RF s₀ g env L Led loc x' s' → Q v' s') → wpAny (model prog w) A (PySem.call fv vs) Q E s

theorem frameOk (hk : scope.kind = .function) (H : FrameHyp I prog w A E (envOf qual scope L f cdv) L g s₀ Led) : FaceOk I prog w A (envOf qual scope L f cdv) E (RF s₀ g (envOf qual scope L f cdv) L Led) where
  name := fun hR hl hQ => by
    obtain ⟨h1, m, own, F, N, l, d⟩ := hR
    obtain ⟨v, hv, hs, hkd, hd⟩ := l _ _ hl
    exact ld F hv (hQ _ hs) hk hkd hd
  load := fun hR hl hQ => by
    obtain ⟨h1, m, own, F, N, l, d⟩ := hR
    obtain ⟨v, hv, hs, hkd, hd⟩ := l _ _ hl
    exact ldn F hv (hQ _ hs) hk hkd
  store := fun hR ha hs hQ => by
    obtain ⟨h1, m, own, F, N, l, d⟩ := hR
    obtain ⟨hkd, hd⟩ := H.asg _ ha
    exact stN F N (fun h' F' N' => hQ _ ⟨h1.put _ _, _, own, F', N', l.store hs hkd hd, H.led _ _ _ _ _ ha d⟩) hk hkd
  toks := fun hR => hR.toks _
  push := fun hR hf => hR.push hf
  sname := fun hR hs hQ => by
    obtain ⟨h1, m, own, F, N, l, d⟩ := hR
    obtain ⟨hv, hkd, hd⟩ := H.self _ _ _ _ _ d hs
    exact ld F hv hQ hk hkd hd
  get := H.get
  set := H.set
  hookE := H.hookE
  hookS := H.hookS
  hookT := H.hookT
  gname := H.gname
  keeper := H.keeper
  call := H.call
end

/-! an object's dict -/
noncomputable def okMV : MV → Bool
  | .val (.ref _) => true
  | .val _ => false
  | _ => true
theorem handed_of {v : Value} {mv : MV} (h : Sim v mv) (k : okMV mv = true) : handedIn v = true := by
  cases mv with
  | none => cases h; rfl
  | bool b => cases h; rfl
  | int i => obtain ⟨t, rfl⟩ := h; rfl
  | str l => obtain ⟨t, rfl⟩ := h; rfl
  | val u => cases h; cases v <;> first | rfl | cases k

inductive AttRel (w : World) : Loc → List DictEntry → Prop
  | nil : AttRel w [] []
  | cons {k mv t v att es} : Sim v mv → okMV mv = true → AttRel w att es → AttRel w ((k, mv) :: att) (⟨PyData.keyHash w.params k, .str k t, v⟩ :: es)
theorem AttRel.length {w : World} {att : Loc} {es : List DictEntry} (h : AttRel w att es) : es.length = att.length := by
  induction h with
  | nil => rfl
  | cons _ _ _ ih => simp [ih]
theorem AttRel.get {w : World} {att : Loc} {es : List DictEntry} (h : AttRel w att es) {a : Str} {mv : MV} (hl : att.lookup a = some mv) : ∃ v, getL a es = some (some v) ∧ Sim v mv ∧ okMV mv = true := by
  induction h with
  | nil => cases hl
  | @cons k u t v att es hs ho r ih =>
    rw [List.lookup_cons] at hl
    by_cases e : a = k
    · subst e
      simp only [beq_self_eq_true] at hl
      cases hl
      refine ⟨v, ?_, hs, ho⟩
      unfold getL
      simp [Value.isStr]
    · have e' : (a == k) = false := beq_eq_false_iff_ne.mpr e
      have e2 : (k == a) = false := beq_eq_false_iff_ne.mpr (Ne.symm e)
      rw [e'] at hl
      obtain ⟨v', h1, h2⟩ := ih hl
      refine ⟨v', ?_, h2⟩
      unfold getL at h1 ⊢
      have e3 : (Value.str k t).isStr a = false := e2
      simp only [List.find?_cons, e3]
      split at h1
      · rename_i e'' he; rw [he]; exact h1
      · split at h1 <;> cases h1
theorem AttRel.noRef {w : World} {att : Loc} {es : List DictEntry} (h : AttRel w att es) : es.any (·.refKey) = false := by
  induction h with
  | nil => rfl
  | cons _ _ _ ih => rw [List.any_cons, ih]; rfl
theorem AttRel.isSome {w : World} {att : Loc} {es : List DictEntry} (h : AttRel w att es) (a : Str) : (getL a es).isSome = true := by
  unfold getL
  split
  · rfl
  · rw [h.noRef]; rfl
theorem AttRel.put {w : World} {att : Loc} {es : List DictEntry} (h : AttRel w att es) {a : Str} {v : Value} {mv : MV} (t : Tok) (hs : Sim v mv) (ho : okMV mv = true) : AttRel w (put a mv att) (putL a (PyData.keyHash w.params a) (.str a t) v es) := by
  induction h with
  | nil => exact .cons hs ho .nil
  | @cons k u t' v' att es hs' ho' r ih =>
    unfold Mine.put putL
    by_cases e : k = a
    · subst e
      simp only [beq_self_eq_true, if_true, Value.isStr]
      exact .cons hs ho r
    · have e' : (k == a) = false := beq_eq_false_iff_ne.mpr e
      simp only [e', Value.isStr, Bool.false_eq_true, if_false]
      exact .cons hs' ho' ih
theorem put_length_le (a : Str) (mv : MV) : ∀ att : Loc, (put a mv att).length ≤ att.length + 1
  | [] => Nat.le_refl _
  | (k, u) :: r => by
    unfold put
    split
    · simp
    · have := put_length_le a mv r
      simp only [List.length_cons]; omega

noncomputable def attOk (K : Frag) (C : Addr) (a : Str) : Bool := plainGet K C a && hasDictIn K C && (findIn K (.ref C) a == some none) && (takerIn K C a == some none)
noncomputable def clsOk (K : Frag) (C : Addr) : Bool := (findIn K (.ref C) "__setattr__" == some (some (.builtin "object.__setattr__"))) && plainOver K C && hasDictIn K C
section
variable {prog : Program} {w : World} {A : Around} {E : Value → Shared → Prop} {s : Shared} {K : Frag} {g : Heap} {L x d C : Addr} {m : Str → Option Value} {es : List DictEntry} {n : Nat} {own : List (Addr × Obj)} {att : Loc} {a : Str}

theorem att_get {mv : MV} {Q : Value → Shared → Prop} (F : Fr g L s.heap m) (X : K.In g) (N : News g L s.heap ((d, dictOf es n) :: own)) (hx : s.heap.get? x = some (instObj C d)) (R : AttRel w att es) (hk : attOk K C a = true) (hl : att.lookup a = some mv)
    (h : ∀ v, Sim v mv → Q v { s with toks := s.toks + 1 }) : wpAny (model prog w) A (getAttr (.ref x) a true) Q E s := by
  obtain ⟨v, h1, h2, h3⟩ := R.get hl
  unfold attOk at hk
  simp only [Bool.and_eq_true, beq_iff_eq] at hk
  obtain ⟨⟨⟨k1, k2⟩, k3⟩, k4⟩ := hk
  exact get_own F X ⟨hx, rfl, rfl, (N _ (.head _)).1⟩ k1 k2 k3 rfl h1 (handed_of h2 h3) (h v h2)
theorem att_set {mv : MV} {v : Value} {Q : Unit → Shared → Prop} (F : Fr g L s.heap m) (X : K.In g) (N : News g L s.heap ((d, dictOf es n) :: own)) (hx : s.heap.get? x = some (instObj C d)) (R : AttRel w att es) (hc : clsOk K C = true) (hk : attOk K C a = true)
    (hs : Sim v mv) (ho : okMV mv = true) (hd : ∀ p ∈ own, p.1 ≠ d) (hz : att.length ≤ 999)
    (h : ∀ h' es' n', Fr g L h' m → News g L h' ((d, dictOf es' n') :: own) → AttRel w (put a mv att) es' → Q () { s with heap := h', toks := s.toks + 2 }) : wpAny (model prog w) A (setAttr (.ref x) a v) Q E s := by
  unfold attOk at hk
  unfold clsOk at hc
  simp only [Bool.and_eq_true, beq_iff_eq] at hk hc
  obtain ⟨⟨⟨k1, k2⟩, k3⟩, k4⟩ := hk
  obtain ⟨⟨c1, c2⟩, c3⟩ := hc
  refine set_dict F X N ⟨hx, rfl, rfl, (N _ (.head _)).1⟩ rfl c1 c2 k4 c3 (R.isSome a) rfl (.head hd) ?_ fun h' F' N' => h h' _ _ F' N' (R.put _ hs ho)
  rw [(R.put (a := a) (s.toks + 1) hs ho).length]
  have := put_length_le a mv att
  omega
end
end Mine
end -- B4
section -- B5
set_option maxRecDepth 100000
namespace Mine

noncomputable abbrev PG : Program := PySem.Challenge.rw_mr0351_01.row.prog
noncomputable abbrev KK (w : World) : Frag := kH w.params

structure Base (w : World) (mg mb : Str → Option Value) (b₀ : Heap) : Prop where
  X : (KK w).In b₀
  g : b₀.Ns mainGlobals mg
  b : b₀.Ns builtinsNs mb
  bb : ∀ x : Str, x ≠ "__name__" → mb x = bootBuiltins x
  nl : b₀.NoLimit

theorem Base.keeps {w : World} {mg mb : Str → Option Value} {b₀ h : Heap} (B : Base w mg mb b₀) (st : b₀.StaysIn h) : Base w mg mb h :=
  ⟨B.X.keeps st, B.g.keeps st, B.b.keeps st, B.bb, B.nl.keeps st⟩

/-- a tree that only looks at the written part of the heap, run -/
noncomputable def runK {α : Type} (K : Frag) : Nat → Sem α → Option α
  | 0, _ => none
  | _ + 1, .pure a => some a
  | n + 1, .rule _ k => runK K n (k ())
  | n + 1, .at _ k => runK K n (k ())
  | n + 1, .point _ k => runK K n (k ())
  | n + 1, .load a _ k => match K.lookup a with
    | some o => runK K n (k o)
    | none => none
  | _ + 1, _ => none
theorem runK_sound {α : Type} {K : Frag} {M : Model} {A : Around} {E : Value → Shared → Prop} {s : Shared} {Q : α → Shared → Prop} (X : K.In s.heap) : ∀ (n : Nat) (t : Sem α) (a : α), runK K n t = some a → Q a s → wpAny M A t Q E s
  | 0, _, _, h, _ => by cases h
  | n + 1, .pure b, a, h, hq => by cases h; exact wpAny_pure hq
  | n + 1, .rule _ k, a, h, hq => fun Γ p hΓ => runK_sound (M := M) (A := A) (E := E) X n (k ()) a h hq Γ p hΓ
  | n + 1, .at q k, a, h, hq => fun Γ _ hΓ => runK_sound (M := M) (A := A) (E := E) X n (k ()) a h hq Γ q hΓ
  | n + 1, .point _ k, a, h, hq => fun Γ p hΓ => runK_sound (M := M) (A := A) (E := E) X n (k ()) a h hq Γ p hΓ
  | n + 1, .load b q k, a, h, hq => by
    unfold runK at h
    split at h
    · rename_i o ho
      exact wpAny_bind (m := loadPart b q) (f := k) (wpAny_loadPart (X _ _ ho) (runK_sound X n _ a h hq))
    · cases h
  | _ + 1, .raise _, _, h, _ => by cases h
  | _ + 1, .unsupported _, _, h, _ => by cases h
  | _ + 1, .finish _, _, h, _ => by cases h
  | _ + 1, .update .., _, h, _ => by cases h
  | _ + 1, .alloc .., _, h, _ => by cases h
  | _ + 1, .loadIfAlive .., _, h, _ => by cases h
  | _ + 1, .register .., _, h, _ => by cases h
  | _ + 1, .fresh _, _, h, _ => by cases h
  | _ + 1, .choose .., _, h, _ => by cases h
  | _ + 1, .os .., _, h, _ => by cases h
  | _ + 1, .call .., _, h, _ => by cases h
  | _ + 1, .handled .., _, h, _ => by cases h
  | _ + 1, .newGen .., _, h, _ => by cases h
  | _ + 1, .genState .., _, h, _ => by cases h
  | _ + 1, .resume .., _, h, _ => by cases h
  | _ + 1, .yield .., _, h, _ => by cases h
  | _ + 1, .stack _, _, h, _ => by cases h
  | _ + 1, .fork .., _, h, _ => by cases h
  | _ + 1, .thread _, _, h, _ => by cases h
  | _ + 1, .await .., _, h, _ => by cases h
  | _ + 1, .ask _, _, h, _ => by cases h
end Mine
end -- B5
section -- B6
set_option maxRecDepth 100000
namespace Mine

noncomputable def P0 : Params := { strHash := fun _ => 0, shareClass := fun _ => 0, mergeTok := id, idOf := fun _ => 0, idOfShared := fun _ _ => 0, followText := fun _ => false, idOfImm := fun _ => 0 }
noncomputable def fdAt (f : Addr) : FuncData := match (kH P0).lookup f with
  | some ⟨_, _, .func fd, _⟩ => fd
  | _ => default
noncomputable def bodyOf (fd : FuncData) : List Stmt := match fd.body with
  | .stmts b => b
  | _ => []
noncomputable def isStmts (fd : FuncData) : Bool := match fd.body with
  | .stmts _ => true
  | _ => false
/-- a def of the text without cells -/
noncomputable def fnOk (K : Frag) (fd : FuncData) : Bool :=
  isStmts fd && fd.closure.isEmpty && fd.globals == mainGlobals && fd.builtins == builtinsNs && codeIn K fd.code fd.qualname && fd.scope.kind == .function && !fd.scope.isCoroutine && !fd.scope.isGenerator && fd.scope.names.all (fun x => x.2 != .cell)
structure FnFacts (w : World) (f : Addr) (fd : FuncData) : Prop where
  here : (KK w).lookup f = some ⟨.type "function", none, .func fd, #[]⟩
  ok : fnOk (KK w) fd = true

noncomputable abbrev envAt (fd : FuncData) (L f : Addr) : Env := envOf fd.qualname fd.scope L f fd.code
theorem callEnv_eq {fd : FuncData} {L a : Addr} (hc : fd.closure = []) (hg : fd.globals = mainGlobals) (hb : fd.builtins = builtinsNs) : callEnv fd L a = envAt fd L a := by
  unfold callEnv newEnv envAt envOf
  simp only [hc, hg, hb]

theorem hide_keeps {h h' : Heap} {fp : List Addr} {L : Addr} {m : Str → Option Value} (F : Fr (hideAll h fp) L h' m) {b : Addr} {o : Obj} (e : h.get? b = some o) (hb : b ∉ fp) : h'.get? b = some o := F.keep b o (hideAll_get _ e hb)

theorem enterF {w : World} {mg mb : Str → Option Value} {b₀ : Heap} {A : Around} {s : Shared} {fd : FuncData} {f : Addr} {R : Result → Shared → Prop} {args : Args} {binds : List (Str × Value)} (own : List (Addr × Obj))
    (Bs : Base w mg mb b₀) (st : b₀.StaysIn s.heap) (ff : FnFacts w f fd) (hroom : A.depth < recursionLimit) (hbind : BindsTo s fd args binds)
    (hloc : (binds.all fun y => decide (fd.scope.names.lookup y.1 = some .local)) = true) (hown : ∀ p ∈ own, s.heap.get? p.1 = some p.2 ∧ b₀.get? p.1 = none)
    (h : ∀ L h₁, Fr (hideAll s.heap (own.map (·.1))) L h₁ (fun y => binds.reverse.lookup y) → News (hideAll s.heap (own.map (·.1))) L h₁ own → b₀.StaysIn (hideAll s.heap (own.map (·.1))) → s.heap.get? L = none → b₀.get? L = none → fd.scope.kind = .function →
      wpAny (model PG w) (A.deeper (envAt fd L f)) (execs (bodyOf fd) (envAt fd L f)) (fun fl s' => R (.ok (.ret (match fl with | .ret v => v | _ => .none))) s')
        (fun e s' => wpAny (model PG w) (A.deeper (envAt fd L f)) (leaving (envAt fd L f) e) (fun _ s'' => R (.error e) s'') (fun e' s'' => R (.error e') s'') s')
        { s with heap := h₁, toks := s.toks + binds.length }) :
    codeAny (model PG w) A (.call (.ref f) args) R s := by
  have ok := ff.ok
  unfold fnOk at ok
  simp only [Bool.and_eq_true, beq_iff_eq, Bool.not_eq_true', List.isEmpty_iff] at ok
  obtain ⟨⟨⟨⟨⟨⟨⟨⟨o1, o2⟩, o3⟩, o4⟩, o5⟩, o6⟩, o7⟩, o8⟩, o9⟩ := ok
  have X := (Bs.keeps st).X
  have hb : fd.body = .stmts (bodyOf fd) := by
    unfold isStmts at o1
    unfold bodyOf
    cases q : fd.body with
    | stmts b => rfl
    | expr e => rw [q] at o1; cases o1
  have hcell : ∀ x ∈ fd.scope.names, x.2 ≠ .cell := fun x hx => by
    have := List.all_eq_true.mp o9 x hx
    simpa using this
  refine codeAny_call_def (fd := fd) (body := bodyOf fd) (binds := binds) hroom (X _ _ ff.here) rfl (Bs.keeps st).nl (codeRec_of X o5) hb hbind hcell (locs hloc) (fun h₁ hns hk₁ => ?_) o7 o8 o6
  rw [callEnv_eq o2 o3 o4]
  have nb : ∀ b o, b₀.get? b = some o → b ∉ own.map (·.1) := fun b o e q => by
    obtain ⟨p, hp, rfl⟩ := List.mem_map.mp q
    rw [(hown p hp).2] at e; cases e
  refine h s.heap.objs.size h₁ ⟨hns, fun b o e => hk₁ b o (of_hideAll _ e), Nat.le_of_eq (hideAll_size _ _)⟩ (fun p hp => ⟨hk₁ _ _ (hown p hp).1, Nat.ne_of_lt (Heap.lt_size (hown p hp).1), hideAll_none _ (List.mem_map_of_mem hp)⟩)
    (fun b o e => hideAll_get _ (st b o e) (nb b o e)) ?_ ?_ o6
  · cases q : s.heap.get? s.heap.objs.size with
    | none => rfl
    | some o => exact absurd (Heap.lt_size q) (Nat.lt_irrefl _)
  · exact st.fresh

theorem binds_run {w : World} {mg mb : Str → Option Value} {s : Shared} {fd : FuncData} {args : Args} {binds : List (Str × Value)} (Bs : Base w mg mb s.heap) (n : Nat) (hr : runK (KK w) n (bindArgs fd args) = some binds) : BindsTo s fd args binds :=
  fun _ _ _ _ hq => runK_sound Bs.X n _ _ hr hq

theorem execs_append {env : Env} {post : List Stmt} : ∀ (pre : List Stmt), execs (pre ++ post) env = (execs pre env >>= fun f => match f with | .next => execs post env | f => pure f)
  | [] => by
    show execs post env = (pure Flow.next >>= _)
    rw [pure_bind]
  | st :: r => by
    rw [List.cons_append, execs_cons, execs_cons, bind_assoc]
    refine congrArg _ (funext fun f => ?_)
    cases f with
    | next => exact execs_append r
    | brk => rw [pure_bind]
    | cont => rw [pure_bind]
    | ret v => rw [pure_bind]
theorem execs_app {M : Model} {A : Around} {E : Value → Shared → Prop} {env : Env} {Q : Flow → Shared → Prop} {pre post : List Stmt} {s : Shared}
    (h : wpAny M A (execs pre env) (fun f s' => match f with | .next => wpAny M A (execs post env) Q E s' | f => Q f s') E s) : wpAny M A (execs (pre ++ post) env) Q E s := by
  rw [execs_append]
  refine wpAny_bind (wpAny_mono h (fun f s' h' => ?_) fun _ _ x => x)
  cases f with
  | next => exact h'
  | brk => exact wpAny_pure h'
  | cont => exact wpAny_pure h'
  | ret v => exact wpAny_pure h'
end Mine
end -- B6
section -- B7
set_option maxRecDepth 100000
namespace Mine

noncomputable def gF (w : World) (sc : Scope) (f : Str) : Option Value :=
  if sc.names.lookup f == some .globalImplicit && !(f == ("__debug__" : Str)) && !(f == ("__name__" : Str)) then match nsIn (KK w) mainGlobals f with
    | some (some (.ref a)) => if keepIn (KK w) (.ref a) then some (.ref a) else none
    | some none => match bootBuiltins f with
      | some (.type t) => some (.type t)
      | some (.builtin t) => some (.builtin t)
      | _ => none
    | _ => none
  else none

section
variable {w : World} {mg mb : Str → Option Value} {g : Heap} {A : Around} {E : Value → Shared → Prop} {s : Shared} {L a : Addr} {m : Str → Option Value} {qual : Str} {sc : Scope} {cd : Value} {f : Str} {v : Value}

theorem gF_name {pos : Pos} {Q : Value → Shared → Prop} (Bs : Base w mg mb g) (F : Fr g L s.heap m) (hk : sc.kind = .function) (h : gF w sc f = some v) (q : Q v s) : wpAny (model PG w) A (eval (.Name f pos) (envOf qual sc L a cd)) Q E s := by
  unfold gF at h
  split at h
  · rename_i hc
    simp only [Bool.and_eq_true, beq_iff_eq, Bool.not_eq_true'] at hc
    obtain ⟨⟨h1, h2⟩, h3⟩ := hc
    split at h
    · rename_i b hb
      split at h
      · cases h
        exact ld_global_at F Bs.g (mg_of Bs.X Bs.g hb) q hk h1 h2
      · cases h
    · rename_i hb
      have hn : f ≠ "__name__" := fun e => by rw [e] at h3; simp at h3
      split at h
      · rename_i t ht
        cases h
        exact ld_builtin_at F Bs.g (mg_none_of Bs.X Bs.g hb) Bs.b ((Bs.bb f hn).trans ht) q hk h1 h2
      · rename_i t ht
        cases h
        exact ld_builtin_at F Bs.g (mg_none_of Bs.X Bs.g hb) Bs.b ((Bs.bb f hn).trans ht) q hk h1 h2
      · cases h
    · cases h
  · cases h
theorem gF_keeper {M : Model} {h : Heap} (X : (KK w).In h) (hf : gF w sc f = some v) : ∃ k, (k = Keeper.frame ∨ k = Keeper.machine ∨ k = Keeper.boundFrame) ∧ Looks M h (keeperOf v) k := by
  unfold gF at hf
  split at hf
  · split at hf
    · split at hf
      · rename_i q
        cases hf
        exact keeps_K q _ X
      · cases hf
    · split at hf
      · cases hf; exact ⟨.machine, .inr (.inl rfl), .now⟩
      · cases hf; exact ⟨.machine, .inr (.inl rfl), .now⟩
      · cases hf
    · cases hf
  · cases hf
end

theorem lookup_append_none {y : Str} {v : Value} : ∀ (l : List (Str × Value)) {k : Str}, (l ++ [(k, v)]).lookup y = (l.lookup y).or (if y == k then some v else none)
  | [], k => by
    simp only [List.nil_append, List.lookup_cons, List.lookup_nil, Option.none_or]
    cases (y == k) <;> rfl
  | (z, u) :: r, k => by
    simp only [List.cons_append, List.lookup_cons]
    cases (y == z)
    · exact lookup_append_none r
    · rfl
theorem zip_lookup_none {y : Str} : ∀ (names : List Str) (vs : List Value), y ∉ names → (names.zip vs).reverse.lookup y = none
  | [], _, _ => by simp
  | _ :: _, [], _ => by simp
  | n :: names, v :: vs, h => by
    rw [List.zip_cons_cons, List.reverse_cons, lookup_append_none, zip_lookup_none names vs fun q => h (.tail _ q)]
    have : (y == n) = false := beq_eq_false_iff_ne.mpr fun q => h (by rw [q]; exact .head _)
    simp [this]
theorem locRel_init {env : Env} : ∀ (names : List Str) (vs : List Value) (mvs : List MV), names.Nodup → Sims vs mvs → (∀ y ∈ names, env.kindOf y = some .local ∧ (y == ("__debug__" : Str)) = false) → LocRel env (names.zip mvs) (fun y => (names.zip vs).reverse.lookup y)
  | [], _, _, _, _, _ => fun y mv h => by simp at h
  | _ :: _, _, _, _, .nil, _ => fun y mv h => by simp at h
  | n :: names, v :: vs, mv :: mvs, hn, .cons h1 h2, hk => by
    intro y u hy
    rw [List.nodup_cons] at hn
    rw [List.zip_cons_cons, List.lookup_cons] at hy
    by_cases e : y = n
    · subst e
      simp only [beq_self_eq_true] at hy
      cases hy
      refine ⟨v, ?_, h1, hk y (.head _)⟩
      show ((y :: names).zip (v :: vs)).reverse.lookup y = some v
      rw [List.zip_cons_cons, List.reverse_cons, lookup_append_none, zip_lookup_none names vs hn.1]
      simp
    · have e' : (y == n) = false := beq_eq_false_iff_ne.mpr e
      rw [e'] at hy
      obtain ⟨v', k1, k2⟩ := locRel_init names vs mvs hn.2 h2 (fun z hz => hk z (.tail _ hz)) y u hy
      refine ⟨v', ?_, k2⟩
      show ((n :: names).zip (v :: vs)).reverse.lookup y = some v'
      rw [List.zip_cons_cons, List.reverse_cons, lookup_append_none]
      have k1' : (names.zip vs).reverse.lookup y = some v' := k1
      rw [k1']; rfl
end Mine
end -- B7
section -- B8
set_option maxRecDepth 100000
namespace Mine

noncomputable abbrev selfN : Str := Str.ofString "self"

/-- a def without an object of its own -/
noncomputable def plainFace {ε : Type} (w : World) (sc : Scope) (asg : List Str) (hookE : Expr → Loc → ε → Option (MV × ε)) (hookS : Stmt → Loc → ε → Option (Loc × ε)) (callV : Value → List MV → ε → Option (MV × ε)) : Face ε where
  selfV := fun _ => none
  getA := fun _ _ _ => none
  setA := fun _ _ _ _ => none
  hookE := hookE
  hookS := hookS
  hookT := fun _ _ _ => none
  asgN := asg
  gfun := gF w sc
  callV := callV

/-- a method: self is an own object at x -/
noncomputable def selfFace {η : Type} (w : World) (sc : Scope) (asg oks : List Str) (x : Addr) (hookE : Expr → Loc → Loc × η → Option (MV × (Loc × η))) (hookS : Stmt → Loc → Loc × η → Option (Loc × (Loc × η))) (callV : Value → List MV → Loc × η → Option (MV × (Loc × η))) : Face (Loc × η) where
  selfV := fun y => if y == selfN then some (.ref x) else none
  getA := fun e y a => if y == selfN && oks.contains a then e.1.lookup a else none
  setA := fun e y a v => if y == selfN && oks.contains a && okMV v && Nat.ble e.1.length 100 then some (put a v e.1, e.2) else none
  hookE := hookE
  hookS := hookS
  hookT := fun _ _ _ => none
  asgN := asg
  gfun := gF w sc
  callV := callV

noncomputable def LedS {η : Type} (w : World) (x d : Addr) (Led2 : η → List (Addr × Obj) → Prop) (e : Loc × η) (m : Str → Option Value) (own : List (Addr × Obj)) : Prop :=
  m selfN = some (.ref x) ∧ ∃ es n rest, own = (d, dictOf es n) :: rest ∧ AttRel w e.1 es ∧ e.1.length ≤ 101 ∧ (∀ p ∈ rest, p.1 ≠ d) ∧ Led2 e.2 rest

noncomputable def asgOk (sc : Scope) (asg : List Str) : Bool := asg.all fun y => sc.names.lookup y == some .local && !(y == ("__debug__" : Str)) && !(y == selfN)
theorem asgOk_mem {sc : Scope} {asg : List Str} (h : asgOk sc asg = true) {y : Str} (hy : asg.contains y = true) : sc.names.lookup y = some .local ∧ (y == ("__debug__" : Str)) = false ∧ y ≠ selfN := by
  have := List.all_eq_true.mp h y (List.contains_iff_mem.mp hy)
  simp only [Bool.and_eq_true, beq_iff_eq, Bool.not_eq_true'] at this
  exact ⟨this.1.1, this.1.2, fun e => by rw [e] at this; simp at this⟩

section
variable {w : World} {mg mb : Str → Option Value} {g : Heap} {A : Around} {E : Value → Shared → Prop} {L f : Addr} {qual : Str} {sc : Scope} {cd : Value} {s₀ : Shared} {asg oks : List Str}

theorem plainHyp {ε : Type} {hookE : Expr → Loc → ε → Option (MV × ε)} {hookS : Stmt → Loc → ε → Option (Loc × ε)} {callV : Value → List MV → ε → Option (MV × ε)} {Led : ε → (Str → Option Value) → List (Addr × Obj) → Prop}
    (Bs : Base w mg mb g) (hk : sc.kind = .function) (hasg : asgOk sc asg = true)
    (hled : ∀ x m own y v, asg.contains y = true → Led x m own → Led x (fun z => if z = y then some v else m z) own)
    (hE : ∀ {loc x s e v x'} {Q : Value → Shared → Prop}, RF s₀ g (envOf qual sc L f cd) L Led loc x s → hookE e loc x = some (v, x') → (∀ v' s', Sim v' v → RF s₀ g (envOf qual sc L f cd) L Led loc x' s' → Q v' s') → wpAny (model PG w) A (eval e (envOf qual sc L f cd)) Q E s)
    (hS : ∀ {loc x s st loc' x'} {Q : Flow → Shared → Prop}, RF s₀ g (envOf qual sc L f cd) L Led loc x s → hookS st loc x = some (loc', x') → (∀ s', RF s₀ g (envOf qual sc L f cd) L Led loc' x' s' → Q .next s') → wpAny (model PG w) A (exec st (envOf qual sc L f cd)) Q E s)
    (hC : ∀ {loc x s fv vs mvs v x'} {Q : Value → Shared → Prop}, RF s₀ g (envOf qual sc L f cd) L Led loc x s → callV fv mvs x = some (v, x') → Sims vs mvs → (∀ v' s', Sim v' v → RF s₀ g (envOf qual sc L f cd) L Led loc x' s' → Q v' s') → wpAny (model PG w) A (PySem.call fv vs) Q E s) :
    FrameHyp (plainFace w sc asg hookE hookS callV) PG w A E (envOf qual sc L f cd) L g s₀ Led where
  asg := fun y hy => let ⟨a, b, _⟩ := asgOk_mem hasg hy; ⟨a, b⟩
  led := hled
  self := fun _ _ _ _ _ _ h => by cases h
  get := fun _ h => by cases h
  set := fun _ h => by cases h
  hookE := hE
  hookS := hS
  hookT := fun _ h => (by cases h)
  gname := fun hR hf q => by
    obtain ⟨_, m, own, F, _⟩ := hR
    exact gF_name Bs F hk hf q
  keeper := fun hR hf => by
    obtain ⟨_, m, own, F, _⟩ := hR
    exact gF_keeper (Bs.keeps F.keep).X hf
  call := fun hR _ hc hs hQ => hC hR hc hs hQ

theorem selfHyp {η : Type} {x d C : Addr} {hookE : Expr → Loc → Loc × η → Option (MV × (Loc × η))} {hookS : Stmt → Loc → Loc × η → Option (Loc × (Loc × η))} {callV : Value → List MV → Loc × η → Option (MV × (Loc × η))} {Led2 : η → List (Addr × Obj) → Prop}
    (Bs : Base w mg mb g) (hk : sc.kind = .function) (hself : sc.names.lookup selfN = some .local) (hasg : asgOk sc asg = true) (hoks : (oks.all fun a => attOk (KK w) C a) = true) (hcls : clsOk (KK w) C = true) (hx : g.get? x = some (instObj C d))
    (hE : ∀ {loc x' s e v x''} {Q : Value → Shared → Prop}, RF s₀ g (envOf qual sc L f cd) L (LedS w x d Led2) loc x' s → hookE e loc x' = some (v, x'') → (∀ v' s', Sim v' v → RF s₀ g (envOf qual sc L f cd) L (LedS w x d Led2) loc x'' s' → Q v' s') → wpAny (model PG w) A (eval e (envOf qual sc L f cd)) Q E s)
    (hS : ∀ {loc x' s st loc' x''} {Q : Flow → Shared → Prop}, RF s₀ g (envOf qual sc L f cd) L (LedS w x d Led2) loc x' s → hookS st loc x' = some (loc', x'') → (∀ s', RF s₀ g (envOf qual sc L f cd) L (LedS w x d Led2) loc' x'' s' → Q .next s') → wpAny (model PG w) A (exec st (envOf qual sc L f cd)) Q E s)
    (hC : ∀ {loc x' s fv vs mvs v x''} {Q : Value → Shared → Prop}, RF s₀ g (envOf qual sc L f cd) L (LedS w x d Led2) loc x' s → callV fv mvs x' = some (v, x'') → Sims vs mvs → (∀ v' s', Sim v' v → RF s₀ g (envOf qual sc L f cd) L (LedS w x d Led2) loc x'' s' → Q v' s') → wpAny (model PG w) A (PySem.call fv vs) Q E s) :
    FrameHyp (selfFace w sc asg oks x hookE hookS callV) PG w A E (envOf qual sc L f cd) L g s₀ (LedS w x d Led2) where
  asg := fun y hy => let ⟨a, b, _⟩ := asgOk_mem hasg hy; ⟨a, b⟩
  led := fun e m own y v hy h => by
    obtain ⟨h1, h2⟩ := h
    refine ⟨?_, h2⟩
    show (if selfN = y then some v else m selfN) = some (.ref x)
    rw [if_neg (Ne.symm (asgOk_mem hasg hy).2.2)]
    exact h1
  self := fun e m own y o h hs => by
    have hs : (if y == selfN then some (Value.ref x) else none) = some o := hs
    split at hs
    · rename_i q
      cases hs
      have : y = selfN := eq_of_beq q
      subst this
      exact ⟨h.1, hself, by decide⟩
    · cases hs
  get := fun {loc e s y o a mv Q} hR hs hg hQ => by
    have hs : (if y == selfN then some (Value.ref x) else none) = some o := hs
    have hg : (if y == selfN && oks.contains a then e.1.lookup a else none) = some mv := hg
    split at hs
    · cases hs
      split at hg
      · rename_i q
        have q2 := (Bool.and_eq_true_iff.mp q).2
        have hok := List.all_eq_true.mp hoks a (List.contains_iff_mem.mp q2)
        obtain ⟨h1, m, own, F, N, l, hm, es, n, rest, rfl, hr, hz, hd, h2⟩ := hR
        exact att_get F Bs.X N (F.keep _ _ hx) hr hok hg fun v hv => hQ _ _ hv ⟨h1.put _ _, m, _, F, N, l, hm, es, n, rest, rfl, hr, hz, hd, h2⟩
      · cases hg
    · cases hs
  set := fun {loc e s y o a v mv e' Q} hR hs hg hv hQ => by
    have hs : (if y == selfN then some (Value.ref x) else none) = some o := hs
    have hg : (if y == selfN && oks.contains a && okMV mv && Nat.ble e.1.length 100 then some (put a mv e.1, e.2) else none) = some e' := hg
    split at hs
    · cases hs
      split at hg
      · rename_i q
        cases hg
        simp only [Bool.and_eq_true] at q
        have hok := List.all_eq_true.mp hoks a (List.contains_iff_mem.mp q.1.1.2)
        have hle := Nat.le_of_ble_eq_true q.2
        obtain ⟨h1, m, own, F, N, l, hm, es, n, rest, rfl, hr, hz, hd, h2⟩ := hR
        refine att_set F Bs.X N (F.keep _ _ hx) hr hcls hok hv q.1.2 hd (by omega) fun h' es' n' F' N' hr' => hQ _ ⟨h1.put _ _, m, _, F', N', l, hm, es', n', rest, rfl, hr', ?_, hd, h2⟩
        have := put_length_le a mv e.1
        show (put a mv e.1).length ≤ 101
        omega
      · cases hg
    · cases hs
  hookE := hE
  hookS := hS
  hookT := fun _ h => (by cases h)
  gname := fun hR hf q => by
    obtain ⟨_, m, own, F, _⟩ := hR
    exact gF_name Bs F hk hf q
  keeper := fun hR hf => by
    obtain ⟨_, m, own, F, _⟩ := hR
    exact gF_keeper (Bs.keeps F.keep).X hf
  call := fun hR _ hc hs hQ => hC hR hc hs hQ
end
end Mine
end -- B8
section -- B9
set_option maxRecDepth 100000
namespace Mine

noncomputable def noE {ε : Type} : Expr → Loc → ε → Option (MV × ε) := fun _ _ _ => none
noncomputable def noS {ε : Type} : Stmt → Loc → ε → Option (Loc × ε) := fun _ _ _ => none
noncomputable def noC {ε : Type} : Value → List MV → ε → Option (MV × ε) := fun _ _ _ => none

noncomputable def namesOk (sc : Scope) (names : List Str) : Bool := decide names.Nodup && names.all fun y => sc.names.lookup y == some .local && !(y == ("__debug__" : Str))
theorem namesOk_nodup {sc : Scope} {names : List Str} (h : namesOk sc names = true) : names.Nodup := of_decide_eq_true (Bool.and_eq_true_iff.mp h).1
theorem namesOk_mem {sc : Scope} {names : List Str} (h : namesOk sc names = true) : ∀ y ∈ names, sc.names.lookup y = some .local ∧ (y == ("__debug__" : Str)) = false := fun y hy => by
  have := List.all_eq_true.mp (Bool.and_eq_true_iff.mp h).2 y hy
  simp only [Bool.and_eq_true, beq_iff_eq, Bool.not_eq_true'] at this
  exact this
theorem namesOk_locs {sc : Scope} {names : List Str} (h : namesOk sc names = true) (vs : List Value) : ((names.zip vs).all fun y => decide (sc.names.lookup y.1 = some .local)) = true := by
  refine List.all_eq_true.mpr fun p hp => decide_eq_true ?_
  obtain ⟨y, v⟩ := p
  exact (namesOk_mem h y (List.of_mem_zip hp).1).1

section
variable {w : World} {mg mb : Str → Option Value} {b₀ : Heap} {A : Around} {s : Shared} {fd : FuncData} {f : Addr} {R : Result → Shared → Prop}

theorem plainFn (names : List Str) {vs : List Value} {mvs : List MV} (asg : List Str) (n : Nat) {r : MV} {loc' : Loc} {o : List Nat}
    (Bs : Base w mg mb b₀) (st : b₀.StaysIn s.heap) (ff : FnFacts w f fd) (hroom : A.depth < recursionLimit) (hs : Sims vs mvs)
    (hb : runK (KK w) 100 (bindArgs fd ⟨vs, []⟩) = some (names.zip vs)) (hn : namesOk fd.scope names = true) (hasg : asgOk fd.scope asg = true)
    (hx : pexec (plainFace w fd.scope asg noE noS noC) n (bodyOf fd) (names.zip mvs) () = some (.ret r, loc', (), o)) (ho : ∀ k ∈ o, k ≤ sizeLine)
    (post : ∀ v s', Sim v r → s.heap.StaysIn s'.heap → SameRest s s' → R (.ok (.ret v)) s') : codeAny (model PG w) A (.call (.ref f) ⟨vs, []⟩) R s := by
  refine enterF [] Bs st ff hroom (binds_run (Bs.keeps st) 100 hb) (namesOk_locs hn vs) (fun _ h => nomatch h) fun L h₁ F N stg hL hL0 hk => ?_
  have ok := frameOk (A := A.deeper (envAt fd L f)) (E := fun e s' => wpAny (model PG w) (A.deeper (envAt fd L f)) (leaving (envAt fd L f) e) (fun _ s'' => R (.error e) s'') (fun e' s'' => R (.error e') s'') s') hk
    (plainHyp (ε := Unit) (hookE := noE) (hookS := noS) (callV := noC) (Led := fun _ _ _ => True) (qual := fd.qualname) (sc := fd.scope) (L := L) (f := f) (cd := fd.code) (s₀ := s) (asg := asg) (Bs.keeps stg) hk hasg (fun _ _ _ _ _ _ _ => trivial)
      (fun _ h => by cases h) (fun _ h => by cases h) (fun _ h => by cases h))
  refine (xsound ok n).1 _ _ _ _ _ _ _ hx ho _ _ ⟨⟨rfl, rfl, rfl⟩, _, [], F, N, locRel_init names vs mvs (namesOk_nodup hn) hs (namesOk_mem hn), trivial⟩ fun s' hR fl hfl => ?_
  obtain ⟨h1, m, own, F', _⟩ := hR
  cases fl <;> first | exact hfl.elim | exact post _ _ hfl (fun b o e => F'.keep b o e) h1
end

noncomputable def fIndex : FuncData := fdAt 71
theorem ff_index (w : World) : FnFacts w 71 fIndex := ⟨by kernel_rfl, by kernel_rfl⟩
noncomputable abbrev sN (x : String) : Str := Str.ofString x
theorem index_c {w : World} {mg mb : Str → Option Value} {b₀ : Heap} {A : Around} {s : Shared} {R : Result → Shared → Prop} {v1 v2 : Value} {l : List Nat} (Bs : Base w mg mb b₀) (st : b₀.StaysIn s.heap) (hroom : A.depth < recursionLimit)
    (hs : Sims [v1, v2] [.int 1, .str l]) (post : ∀ v s', Sim v (.int 1) → s.heap.StaysIn s'.heap → SameRest s s' → R (.ok (.ret v)) s') : codeAny (model PG w) A (.call (.ref 71) ⟨[v1, v2], []⟩) R s :=
  plainFn [sN "n", sN "what"] [sN "n"] 30 Bs st (ff_index w) hroom hs (by kernel_rfl) (by kernel_rfl) (by kernel_rfl) (loc' := [(sN "n", .int 1), (sN "what", .str l)]) (o := []) (by kernel_rfl) (fun _ h => nomatch h) post
end Mine
end -- B9
section -- C1
set_option maxRecDepth 100000
namespace Mine

structure Hooks {ε : Type} (w : World) (A : Around) (env : Env) (RR : Loc → ε → Shared → Prop) (hookE : Expr → Loc → ε → Option (MV × ε)) (hookS : Stmt → Loc → ε → Option (Loc × ε)) (callV : Value → List MV → ε → Option (MV × ε)) : Prop where
  e : ∀ {E : Value → Shared → Prop} {loc x s e v x'} {Q : Value → Shared → Prop}, RR loc x s → hookE e loc x = some (v, x') → (∀ v' s', Sim v' v → RR loc x' s' → Q v' s') → wpAny (model PG w) A (eval e env) Q E s
  s : ∀ {E : Value → Shared → Prop} {loc x s st loc' x'} {Q : Flow → Shared → Prop}, RR loc x s → hookS st loc x = some (loc', x') → (∀ s', RR loc' x' s' → Q .next s') → wpAny (model PG w) A (exec st env) Q E s
  c : ∀ {E : Value → Shared → Prop} {loc x s fv vs mvs v x'} {Q : Value → Shared → Prop}, RR loc x s → callV fv mvs x = some (v, x') → Sims vs mvs → (∀ v' s', Sim v' v → RR loc x' s' → Q v' s') → wpAny (model PG w) A (PySem.call fv vs) Q E s

theorem noHooks {ε : Type} {w : World} {A : Around} {env : Env} {RR : Loc → ε → Shared → Prop} : Hooks w A env RR noE noS noC := ⟨fun _ h => (by cases h), fun _ h => (by cases h), fun _ h => (by cases h)⟩

theorem xrun {ε : Type} {I : Face ε} {w : World} {A : Around} {env : Env} {E : Value → Shared → Prop} {RR : Loc → ε → Shared → Prop} (ok : FaceOk I PG w A env E RR) (n : Nat) (fl : PFlow) (loc' : Loc) (x' : ε) (o : List Nat) {sts : List Stmt} {loc : Loc} {x : ε} {s : Shared} {Q : Flow → Shared → Prop}
    (h : pexec I n sts loc x = some (fl, loc', x', o)) (ho : ∀ k ∈ o, k ≤ sizeLine) (hR : RR loc x s) (post : ∀ s', RR loc' x' s' → After PG w A env E fl Q s') : wpAny (model PG w) A (execs sts env) Q E s := (xsound ok n).1 _ _ _ _ _ _ _ h ho _ _ hR post
/-- run the first statements, then the rest -/
theorem xseg {ε : Type} {I : Face ε} {w : World} {A : Around} {env : Env} {E : Value → Shared → Prop} {RR : Loc → ε → Shared → Prop} (ok : FaceOk I PG w A env E RR) (n : Nat) (loc' : Loc) (x' : ε) (o : List Nat) (k : Nat) {sts : List Stmt} {loc : Loc} {x : ε} {s : Shared} {Q : Flow → Shared → Prop}
    (h : pexec I n (sts.take k) loc x = some (.next, loc', x', o)) (ho : ∀ k ∈ o, k ≤ sizeLine) (hR : RR loc x s) (post : ∀ s', RR loc' x' s' → wpAny (model PG w) A (execs (sts.drop k) env) Q E s') : wpAny (model PG w) A (execs sts env) Q E s := by
  rw [← List.take_append_drop k sts]
  refine execs_app (xrun ok n .next loc' x' o h ho hR fun s' hR' fl hfl => ?_)
  cases fl <;> first | exact hfl.elim | exact post _ hR'
/-- a statement's test, then the ways -/
theorem xif {ε : Type} {I : Face ε} {w : World} {A : Around} {env : Env} {E : Value → Shared → Prop} {RR : Loc → ε → Shared → Prop} (ok : FaceOk I PG w A env E RR) (n : Nat) (b : Bool) (x' : ε) (o : List Nat) {t : Expr} {body orelse : List Stmt} {pos : Pos} {loc : Loc} {x : ε} {s : Shared} {Q : Flow → Shared → Prop}
    (h : ptest I n t loc x = some (b, x', o)) (ho : ∀ k ∈ o, k ≤ sizeLine) (hR : RR loc x s) (post : ∀ s', RR loc x' s' → wpAny (model PG w) A (execs (if b then body else orelse) env) Q E s') : wpAny (model PG w) A (exec (.If t body orelse pos) env) Q E s := by
  refine wpAny_If ((psound ok n).2.2.1 _ _ _ _ _ _ h ho _ _ hR fun s' hR' => ?_)
  have z := post s' hR'
  cases b <;> exact z

noncomputable def flowV : Flow → Value
  | .ret v => v
  | _ => .none

/-- what stands behind a method's call -/
noncomputable def OutS {η : Type} (w : World) (s s' : Shared) (d : Addr) (own2 : List Addr) (att : Loc) (e : η) (Led2 : η → List (Addr × Obj) → Prop) : Prop :=
  SameRest s s' ∧ (∀ b o, s.heap.get? b = some o → b ∉ d :: own2 → s'.heap.get? b = some o) ∧ ∃ es n rest, s'.heap.get? d = some (dictOf es n) ∧ AttRel w att es ∧ (∀ p ∈ rest, s'.heap.get? p.1 = some p.2) ∧ Led2 e rest

section
variable {w : World} {mg mb : Str → Option Value} {b₀ : Heap} {A : Around} {s : Shared} {fd : FuncData} {f : Addr} {R : Result → Shared → Prop}

theorem RF.outS {η : Type} {g : Heap} {env : Env} {L x d : Addr} {Led2 : η → List (Addr × Obj) → Prop} {loc : Loc} {att : Loc} {e : η} {s s' : Shared} {own2 : List Addr} (hg : g = hideAll s.heap (d :: own2)) (h : RF s g env L (LedS w x d Led2) loc (att, e) s') : OutS w s s' d own2 att e Led2 := by
  obtain ⟨h1, m, own, F, N, l, hm, es, n, rest, rfl, hr, hz, hd, h2⟩ := h
  subst hg
  exact ⟨h1, fun b o e hb => hide_keeps F e hb, es, n, rest, (N _ (.head _)).1, hr, fun p hp => (N p (.tail _ hp)).1, h2⟩

theorem enterSelf {η : Type} {x d C : Addr} {es : List DictEntry} {n : Nat} {att : Loc} {e₀ : η} {Led2 : η → List (Addr × Obj) → Prop} (names : List Str) {vs : List Value} {mvs : List MV} (asg oks : List Str) (own2 : List (Addr × Obj))
    (hookE : Expr → Loc → Loc × η → Option (MV × (Loc × η))) (hookS : Stmt → Loc → Loc × η → Option (Loc × (Loc × η))) (callV : Value → List MV → Loc × η → Option (MV × (Loc × η)))
    (Bs : Base w mg mb b₀) (st : b₀.StaysIn s.heap) (ff : FnFacts w f fd) (hroom : A.depth < recursionLimit) (hs : Sims vs mvs)
    (hb : runK (KK w) 100 (bindArgs fd ⟨.ref x :: vs, []⟩) = some ((selfN :: names).zip (.ref x :: vs))) (hn : namesOk fd.scope (selfN :: names) = true) (hasg : asgOk fd.scope asg = true)
    (hoks : (oks.all fun a => attOk (KK w) C a) = true) (hcls : clsOk (KK w) C = true)
    (hx : s.heap.get? x = some (instObj C d)) (hd : s.heap.get? d = some (dictOf es n)) (hd0 : b₀.get? d = none) (hr : AttRel w att es) (hlen : att.length ≤ 101)
    (hown : ∀ p ∈ own2, s.heap.get? p.1 = some p.2 ∧ b₀.get? p.1 = none) (hne : ∀ p ∈ own2, p.1 ≠ d) (hxo : x ∉ own2.map (·.1)) (hl2 : Led2 e₀ own2)
    (hooks : ∀ L, Base w mg mb (hideAll s.heap (d :: own2.map (·.1))) → b₀.StaysIn (hideAll s.heap (d :: own2.map (·.1))) → Hooks w (A.deeper (envAt fd L f)) (envAt fd L f) (RF s (hideAll s.heap (d :: own2.map (·.1))) (envAt fd L f) L (LedS w x d Led2)) hookE hookS callV)
    (h : ∀ L s₁, (∀ E, FaceOk (selfFace w fd.scope asg oks x hookE hookS callV) PG w (A.deeper (envAt fd L f)) (envAt fd L f) E (RF s (hideAll s.heap (d :: own2.map (·.1))) (envAt fd L f) L (LedS w x d Led2))) →
      RF s (hideAll s.heap (d :: own2.map (·.1))) (envAt fd L f) L (LedS w x d Led2) ((selfN :: names).zip (.val (.ref x) :: mvs)) (att, e₀) s₁ → s.heap.get? L = none → b₀.get? L = none →
      wpAny (model PG w) (A.deeper (envAt fd L f)) (execs (bodyOf fd) (envAt fd L f)) (fun fl s' => R (.ok (.ret (flowV fl))) s')
        (fun e s' => wpAny (model PG w) (A.deeper (envAt fd L f)) (leaving (envAt fd L f) e) (fun _ s'' => R (.error e) s'') (fun e' s'' => R (.error e') s'') s') s₁) :
    codeAny (model PG w) A (.call (.ref f) ⟨.ref x :: vs, []⟩) R s := by
  have hxd : x ≠ d := fun e => by rw [e, hd] at hx; cases hx
  refine enterF ((d, dictOf es n) :: own2) Bs st ff hroom (binds_run (Bs.keeps st) 100 hb) (namesOk_locs hn _) ?_ fun L h₁ F N stg hL hL0 hk => ?_
  · intro p hp
    rcases List.mem_cons.mp hp with rfl | hp
    · exact ⟨hd, hd0⟩
    · exact hown p hp
  · have l := locRel_init (env := envAt fd L f) (selfN :: names) (.ref x :: vs) (.val (.ref x) :: mvs) (namesOk_nodup hn) (.cons rfl hs) (namesOk_mem hn)
    have hself : fd.scope.names.lookup selfN = some .local := (namesOk_mem hn selfN (.head _)).1
    have hxg : (hideAll s.heap (d :: own2.map (·.1))).get? x = some (instObj C d) := hideAll_get _ hx fun q => by
      rcases List.mem_cons.mp q with q | q
      · exact hxd q
      · exact hxo q
    have hh := hooks L (Bs.keeps stg) stg
    refine wpAny_mono (h L _ (fun E => frameOk hk (selfHyp (qual := fd.qualname) (sc := fd.scope) (L := L) (f := f) (cd := fd.code) (s₀ := s) (Bs.keeps stg) hk hself hasg hoks hcls hxg hh.e hh.s hh.c)) ?_ hL hL0) (fun fl s' q => ?_) fun _ _ q => q
    · obtain ⟨v, hv, hsv, _⟩ := l selfN (.val (.ref x)) (by simp [List.zip_cons_cons])
      cases hsv
      exact ⟨⟨rfl, rfl, rfl⟩, _, _, F, N, l, hv, es, n, own2, rfl, hr, hlen, hne, hl2⟩
    · cases fl <;> exact q
end
end Mine
end -- C1
section -- C2
set_option maxRecDepth 100000
namespace Mine

/-- a StringIO's dict -/
noncomputable def ioAtt (buf : List Nat) (pos : Int) : Loc := [(sN "_StringIO__newline", .str [10]), (sN "_StringIO__buf", .str buf), (sN "_StringIO__pos", .int pos)]
noncomputable def asIo : Loc → Option (List Nat × Int)
  | [] => none
  | a :: r => (as2 r).bind fun q => (asStr a.2).bind fun nl => (asStr q.1.2).bind fun buf => (asInt q.2.2).bind fun pos => cond (nl == [10] && a.1 == sN "_StringIO__newline" && q.1.1 == sN "_StringIO__buf" && q.2.1 == sN "_StringIO__pos") (some (buf, pos)) none
theorem asIo_eq {l : Loc} {buf : List Nat} {pos : Int} (h : asIo l = some (buf, pos)) : l = ioAtt buf pos := by
  cases l with
  | nil => exact nomatch (show none = some (buf, pos) from h)
  | cons a r =>
    refine bnd h fun q hq h => bnd h fun nl hnl h => bnd h fun b hb h => bnd h fun i hi h => cnd h fun c h => ?_
    cases (Option.some.inj h)
    simp only [Bool.and_eq_true, beq_iff_eq] at c
    obtain ⟨a1, a2⟩ := a
    obtain ⟨⟨b1, b2⟩, c1, c2⟩ := q
    cases as2_eq hq
    have e1 := asStr_eq hnl
    have e2 := asStr_eq hb
    have e3 := asInt_eq hi
    obtain ⟨⟨⟨c1, c2⟩, c3⟩, c4⟩ := c
    dsimp only at e1 e2 e3 c2 c3 c4
    subst e1 e2 e3 c1 c2 c3 c4
    rfl
noncomputable def ioOks : List Str := [sN "_StringIO__newline", sN "_StringIO__buf", sN "_StringIO__pos"]
theorem ioOks_ok (w : World) : (ioOks.all fun a => attOk (KK w) 605 a) = true := by kernel_rfl
theorem ioCls_ok (w : World) : clsOk (KK w) 605 = true := by kernel_rfl

noncomputable def fCheck : FuncData := fdAt 389
theorem ff_check (w : World) : FnFacts w 389 fCheck := ⟨by kernel_rfl, by kernel_rfl⟩
noncomputable def fRead : FuncData := fdAt 551
theorem ff_read (w : World) : FnFacts w 551 fRead := ⟨by kernel_rfl, by kernel_rfl⟩

section
variable {w : World} {mg mb : Str → Option Value} {b₀ : Heap} {A : Around} {s : Shared} {R : Result → Shared → Prop} {x d : Addr} {es : List DictEntry} {n : Nat} {buf : List Nat} {pos : Int}

theorem check_c (Bs : Base w mg mb b₀) (st : b₀.StaysIn s.heap) (hroom : A.depth < recursionLimit) (hx : s.heap.get? x = some (instObj 605 d)) (hd : s.heap.get? d = some (dictOf es n)) (hd0 : b₀.get? d = none) (hr : AttRel w (ioAtt buf pos) es)
    (post : ∀ s', OutS w s s' d [] (ioAtt buf pos) () (fun _ _ => True) → R (.ok (.ret .none)) s') : codeAny (model PG w) A (.call (.ref 389) ⟨[.ref x], []⟩) R s := by
  refine enterSelf (η := Unit) (e₀ := ()) (Led2 := fun _ _ => True) [] [] ioOks [] noE noS noC Bs st (ff_check w) hroom .nil (by kernel_rfl) (by kernel_rfl) (by kernel_rfl) (ioOks_ok w) (ioCls_ok w) hx hd hd0 hr (Nat.le_of_ble_eq_true rfl)
    (fun _ h => nomatch h) (fun _ h => nomatch h) (fun h => nomatch h) trivial (fun L _ _ => noHooks) fun L s₁ ok hR hL hL0 => ?_
  refine xrun (ok _) 20 .next [(selfN, .val (.ref x))] (ioAtt buf pos, ()) [] (by kernel_rfl) (fun _ h => nomatch h) hR fun s' hR' fl hfl => ?_
  cases fl <;> first | exact hfl.elim | exact post _ (hR'.outS rfl)
end
end Mine
end -- C2
section -- C3
set_option maxRecDepth 100000
namespace Mine

theorem AttRel.miss {w : World} {att : Loc} {es : List DictEntry} (h : AttRel w att es) {a : Str} (hl : att.lookup a = none) : getL a es = some none := by
  have key : es.find? (·.key.isStr a) = none := by
    induction h with
    | nil => rfl
    | @cons k u t v att es hs ho r ih =>
      rw [List.lookup_cons] at hl
      by_cases e : a = k
      · subst e; simp at hl
      · have e' : (a == k) = false := beq_eq_false_iff_ne.mpr e
        have e2 : (k == a) = false := beq_eq_false_iff_ne.mpr (Ne.symm e)
        rw [e'] at hl
        have e3 : (Value.str k t).isStr a = false := e2
        simp only [List.find?_cons, e3]
        exact ih hl
  unfold getL
  rw [key, h.noRef]; rfl

theorem frAfter {g h h' : Heap} {L : Addr} {m : Str → Option Value} {fp : List Addr} (F : Fr g L h m) (k : ∀ b o, h.get? b = some o → b ∉ fp → h'.get? b = some o) (hfp : ∀ b ∈ fp, b ≠ L ∧ g.get? b = none) : Fr g L h' m := by
  obtain ⟨oL, es, ep, hL, r⟩ := F.ns
  refine ⟨⟨oL, es, ep, k _ _ hL fun q => (hfp _ q).1 rfl, r⟩, fun b o e => k b o (F.keep b o e) fun q => ?_, F.above⟩
  rw [(hfp _ q).2] at e; cases e
theorem RF.after {η : Type} {w : World} {s₀ s s' : Shared} {g : Heap} {env : Env} {L x d : Addr} {Led2 : η → List (Addr × Obj) → Prop} {loc att att' : Loc} {e : η} (h : RF s₀ g env L (LedS w x d Led2) loc (att, e) s) (o : OutS w s s' d [] att' () (fun _ _ => True)) (hl : att'.length ≤ 101) :
    RF s₀ g env L (LedS w x d Led2) loc (att', e) s' := by
  obtain ⟨h1, m, own, F, N, l, hm, es, n, rest, rfl, hr, hz, hd, h2⟩ := h
  obtain ⟨o1, o2, es', n', _, o3, o4, _⟩ := o
  have D := N _ (.head _)
  refine ⟨h1.trans o1, m, (d, dictOf es' n') :: rest, frAfter F o2 (fun b hb => ?_), fun p hp => ?_, l, hm, es', n', rest, rfl, o4, hl, hd, h2⟩
  · cases hb with
    | head => exact ⟨D.2.1, D.2.2⟩
    | tail _ q => exact nomatch q
  · rcases List.mem_cons.mp hp with rfl | hp
    · exact ⟨o3, D.2⟩
    · have P := N p (.tail _ hp)
      exact ⟨o2 _ _ P.1 fun q => hd p hp (by simpa using q), P.2⟩

theorem RF.grow {ε : Type} {s₀ s s' : Shared} {g : Heap} {env : Env} {L : Addr} {Led : ε → (Str → Option Value) → List (Addr × Obj) → Prop} {loc : Loc} {x : ε} (h : RF s₀ g env L Led loc x s) (k : s.heap.StaysIn s'.heap) (hs : SameRest s s') : RF s₀ g env L Led loc x s' := by
  obtain ⟨h1, m, own, F, N, l, d⟩ := h
  exact ⟨h1.trans hs, m, own, frAfter (fp := []) F (fun b o e _ => k b o e) (fun _ q => nomatch q), fun p hp => ⟨k _ _ (N p hp).1, (N p hp).2⟩, l, d⟩

section
variable {M : Model} {w : World} {A : Around} {E : Value → Shared → Prop} {s : Shared} {env : Env}

theorem wp_method {o : Expr} {name : Str} {apos pos : Pos} {args : List Expr} {Q : Value → Shared → Prop} (hbase : attributeBase o name env (eval o env) = eval o env) (hline : (apos.endLine == pos.line) = true)
    (hform : methodCallForm (args.length + ([] : List Keyword).length) (backTo pos (starEach args env)) (backToKw pos (keywordEach [] env)) = true)
    (h : wpAny M A (eval o env) (fun ov s₁ => wpAny M A (getMethod ov name (do return (← importBound o env).getD true)) (fun fx s₂ => wpAny M A (callWith pos fx.1 fx.2 (backTo pos (starEach args env)) []) Q E s₂) E s₁) E s) :
    wpAny M A (eval (.Call (.Attribute o name apos) args [] pos) env) Q E s := by
  rw [arm_eval_Call, hbase]
  refine wpAny_bind (wpAny_mono h (fun ov s₁ h₁ => wpAny_bind (wpAny_standAt ?_)) fun _ _ e => e)
  unfold methodCall
  rw [hform]
  have hpos : methodCallPos true o env apos pos = pure pos := by unfold methodCallPos; simp [hline]
  refine wpAny_bind (wpAny_holding (wpAny_mono h₁ (fun fx s₂ h₂ => ?_) fun _ _ x => x))
  exact wpAny_bind (wpAny_of_eq hpos h₂)

noncomputable def Ret (Q : Value → Shared → Prop) (E : Value → Shared → Prop) (r : Result) (s' : Shared) : Prop := match r with
  | .ok (.ret v) => Q v s'
  | .ok _ => False
  | .error e => E e s'

noncomputable def methOk (K : Frag) (C f : Addr) (name : Str) : Bool := plainGet K C name && (findIn K (.ref C) name == some (some (.ref f))) && isFn K (.ref f) && keepIn K (.ref f)
theorem baseOk (o : Expr) (name : Str) (h : (match o with | .Call .. => false | _ => true) = true) : attributeBase o name env (eval o env) = eval o env := by
  cases o <;> first | rfl | cases h

/-- a method of an own class, no arguments -/
theorem wp_meth0 {x d C f L : Addr} {g : Heap} {m : Str → Option Value} {es : List DictEntry} {n : Nat} {att : Loc} {y name : Str} {p apos pos : Pos} {Q : Value → Shared → Prop} (hline : (apos.endLine == pos.line) = true)
    (hy : ∀ Q' : Value → Shared → Prop, Q' (.ref x) s → wpAny (model PG w) A (eval (.Name y p) env) Q' E s) (F : Fr g L s.heap m) (X : (KK w).In g) (hx : s.heap.get? x = some (instObj C d)) (hd : s.heap.get? d = some (dictOf es n))
    (hr : AttRel w att es) (hm : methOk (KK w) C f name = true) (hl : att.lookup name = none) (h : codeAny (model PG w) A (.call (.ref f) ⟨[.ref x], []⟩) (Ret Q E) s) :
    wpAny (model PG w) A (eval (.Call (.Attribute (.Name y p) name apos) [] [] pos) env) Q E s := by
  unfold methOk at hm
  simp only [Bool.and_eq_true, beq_iff_eq] at hm
  obtain ⟨⟨⟨m1, m2⟩, m3⟩, m4⟩ := hm
  refine wp_method rfl hline rfl (hy _ (method_inst F X ⟨hx, rfl, rfl, hd⟩ m1 m2 m3 (hr.miss hl) ?_))
  refine callWith_K0 (X.keeps F.keep) m4 (wpAny_call ?_)
  exact codeAny_mono h fun r s' q => q
end

section
variable {w : World} {mg mb : Str → Option Value} {b₀ : Heap} {A : Around} {s : Shared} {R : Result → Shared → Prop} {x d : Addr} {es : List DictEntry} {n : Nat} {buf : List Nat} {pos : Nat}

theorem meth_check (w : World) : methOk (KK w) 605 389 (sN "_StringIO__check") = true := by kernel_rfl
noncomputable def readS : Stmt → Loc → Loc × Unit → Option (Loc × (Loc × Unit)) := fun st loc e => (asExprS st).bind fun ex => (asMeth ex).bind fun c => (asName c.o).bind fun y => cond (y == selfN && c.a == sN "_StringIO__check" && c.args.isEmpty && c.line && (asIo e.1).isSome) (some (loc, e)) none
noncomputable def readC : Value → List MV → Loc × Unit → Option (MV × (Loc × Unit)) := fun fv vs e => (asRef fv).bind fun a => (as2 vs).bind fun p => (asInt p.1).bind fun i => (asStr p.2).bind fun _ => cond (a == 71 && i == 1) (some (.int 1, e)) none
theorem readHooks (Bs : Base w mg mb b₀) (hroom : A.depth < 900) (L : Addr) (g : Heap) (Bg : Base w mg mb g) (st : b₀.StaysIn g) (hx : g.get? x = some (instObj 605 d)) (hd0 : b₀.get? d = none) :
    Hooks w A (envAt fRead L 551) (RF s g (envAt fRead L 551) L (LedS w x d (fun _ _ => True))) noE readS readC where
  e := fun _ h => (by cases h)
  s := fun {E loc e s₁ st' loc' e' Q} hR h hQ => by
    refine bnd h fun ex hex h => bnd h fun c hc h => bnd h fun y hy h => cnd h fun q h => ?_
    cases (Option.some.inj h)
    obtain ⟨sp, rfl⟩ := asExprS_eq hex
    obtain rfl := asMeth_eq hc
    obtain ⟨o, a, ap, args, p⟩ := c
    obtain ⟨yp, e0⟩ := asName_eq hy
    dsimp only at e0 q
    subst e0
    simp only [Bool.and_eq_true, beq_iff_eq, List.isEmpty_iff] at q
    obtain ⟨⟨⟨⟨rfl, rfl⟩, rfl⟩, q3⟩, q4⟩ := q
    obtain ⟨att, u⟩ := e
    obtain ⟨⟨bf, ps⟩, hio⟩ := Option.isSome_iff_exists.mp q4
    obtain rfl := asIo_eq hio
    have hR' := hR
    obtain ⟨h1, m, own, F, N, l, hm, es, n, rest, rfl, hr, hz, hd, h2⟩ := hR
    refine wpAny_Expr (wp_meth0 q3 (fun Q' hq => ld F hm hq rfl rfl rfl) F Bg.X (F.keep _ _ hx) (N _ (.head _)).1 hr (meth_check w) (by kernel_rfl) ?_) rfl rfl
    refine check_c Bs (fun b' o e => F.keep b' o (st b' o e)) (by have : recursionLimit = 1000 := rfl; omega) (F.keep _ _ hx) (N _ (.head _)).1 hd0 hr fun s' ho => ?_
    exact hQ _ (hR'.after ho (Nat.le_of_ble_eq_true rfl))
  c := fun {E loc e s₁ fv vs mvs v e' Q} hR h hs hQ => by
    refine bnd h fun a ha h => bnd h fun p hp h => bnd h fun i hi h => bnd h fun l hl h => cnd h fun q h => ?_
    cases (Option.some.inj h)
    simp only [Bool.and_eq_true, beq_iff_eq] at q
    have e1 := asInt_eq hi
    have e2 := asStr_eq hl
    rw [as2_eq hp, e1, e2] at hs
    rw [asRef_eq ha, q.1]
    rw [q.2] at hs
    have hR' := hR
    obtain ⟨h1, m, own, F, N, l, hm⟩ := hR
    cases hs with | cons a b => cases b with | cons b c =>
      cases c
      exact wpAny_call (index_c Bs (fun b' o e => F.keep b' o (st b' o e)) (by have : recursionLimit = 1000 := rfl; omega) (.cons a (.cons b .nil)) fun v s' hv hk hs' => hQ _ _ hv (hR'.grow hk hs'))
end
end Mine
end -- C3
section -- C4
set_option maxRecDepth 100000
namespace Mine

noncomputable def isIf : Stmt → Bool
  | .If .. => true
  | _ => false
noncomputable def ifT : Stmt → Expr
  | .If t _ _ _ => t
  | _ => .Name (sN "") ⟨0, 0, 0, 0⟩
noncomputable def ifB : Stmt → List Stmt
  | .If _ b _ _ => b
  | _ => []
noncomputable def ifO : Stmt → List Stmt
  | .If _ _ o _ => o
  | _ => []
noncomputable def stAt (sts : List Stmt) (k : Nat) : Stmt := (sts[k]?).getD (.Pass ⟨0, 0, 0, 0⟩)

/-- an if at place k: its test, then the way taken and what follows -/
theorem xifAt {ε : Type} {I : Face ε} {w : World} {A : Around} {env : Env} {E : Value → Shared → Prop} {RR : Loc → ε → Shared → Prop} (ok : FaceOk I PG w A env E RR) (n : Nat) (b : Bool) (x' : ε) (o : List Nat) (k : Nat) {sts : List Stmt} {loc : Loc} {x : ε} {s : Shared} {Q : Flow → Shared → Prop}
    (hk : Nat.blt k sts.length = true) (hi : isIf (stAt sts k) = true) (h : ptest I n (ifT (stAt sts k)) loc x = some (b, x', o)) (ho : ∀ k ∈ o, k ≤ sizeLine) (hR : RR loc x s)
    (post : ∀ s', RR loc x' s' → wpAny (model PG w) A (execs ((if b then ifB (stAt sts k) else ifO (stAt sts k)) ++ sts.drop (k + 1)) env) Q E s') : wpAny (model PG w) A (execs (sts.drop k) env) Q E s := by
  have hk' : k < sts.length := Nat.le_of_ble_eq_true hk
  have e : sts.drop k = stAt sts k :: sts.drop (k + 1) := by
    rw [List.drop_eq_getElem_cons hk']
    unfold stAt
    rw [List.getElem?_eq_getElem hk']; rfl
  rw [e]
  generalize stAt sts k = st at *
  cases st <;> first | cases hi | skip
  rename_i t body orelse pos
  have e2 : execs (.If t body orelse pos :: sts.drop (k + 1)) env = (do
      standAt pos
      let b ← isTrue t env (eval t env)
      execs ((if b then body else orelse) ++ sts.drop (k + 1)) env) := by
    rw [execs_cons, exec_If]
    simp only [bind_assoc]
    refine congrArg _ (funext fun _ => congrArg _ (funext fun c => ?_))
    cases c
    · simp only [Bool.false_eq_true, if_false]; exact (execs_append orelse).symm
    · simp only [if_true]; exact (execs_append body).symm
  rw [e2]
  refine wpAny_bind (wpAny_standAt (wpAny_bind ((psound ok n).2.2.1 _ _ _ _ _ _ h ho _ _ hR fun s' hR' => ?_)))
  have z := post s' hR'
  cases b <;> exact z
end Mine
namespace Mine
section
variable {w : World} {mg mb : Str → Option Value} {b₀ : Heap} {A : Around} {s : Shared} {R : Result → Shared → Prop} {x d : Addr} {es : List DictEntry} {n : Nat} {buf : List Nat} {p : Nat}

theorem read_c {t : Value} (Bs : Base w mg mb b₀) (st : b₀.StaysIn s.heap) (hroom : A.depth < 890) (ht : Sim t (.int 1)) (hx : s.heap.get? x = some (instObj 605 d)) (hd : s.heap.get? d = some (dictOf es n)) (hd0 : b₀.get? d = none) (hr : AttRel w (ioAtt buf p) es) (hlen : buf.length ≤ 100000)
    (post : ∀ v s', Sim v (.str (pcut buf (some p) (some (p + 1)))) → OutS w s s' d [] (ioAtt buf ((if p < buf.length then p + 1 else p : Nat) : Int)) () (fun _ _ => True) → R (.ok (.ret v)) s') : codeAny (model PG w) A (.call (.ref 551) ⟨[.ref x, t], []⟩) R s := by
  have hsz : buf.length ≤ sizeLine := by rw [sizeLine_eq]; omega
  have hrl : recursionLimit = 1000 := rfl
  have dp : ∀ L, (A.deeper (envAt fRead L 551)).depth < 900 := fun L => by show A.depth + 1 < 900; omega
  have hxd : x ≠ d := fun e => by rw [e, hd] at hx; cases hx
  refine enterSelf (η := Unit) (e₀ := ()) (Led2 := fun _ _ => True) [sN "size"] [sN "size", sN "start", sN "stop"] ioOks [] noE readS readC Bs st (ff_read w) (by omega) (.cons ht .nil) (by kernel_rfl) (by kernel_rfl) (by kernel_rfl) (ioOks_ok w) (ioCls_ok w) hx hd hd0 hr (Nat.le_of_ble_eq_true rfl)
    (fun _ h => nomatch h) (fun _ h => nomatch h) (fun h => nomatch h) trivial (fun L Bg stg => readHooks Bs (dp L) L _ Bg stg (hideAll_get _ hx (by simpa using hxd)) hd0) fun L s₁ ok hR hL hL0 => ?_
  refine xseg (ok _) 30 [(selfN, .val (.ref x)), (sN "size", .int 1), (sN "start", .int p), (sN "stop", .int buf.length)] (ioAtt buf p, ()) [buf.length] 5 (by kernel_rfl) (by simpa using hsz) hR fun s₂ hR₂ => ?_
  refine xifAt (ok _) 30 (decide ((buf.length : Int) ≤ (p : Int))) (ioAtt buf p, ()) [] 5 (by kernel_rfl) (by kernel_rfl) (by kernel_rfl) (fun _ h => nomatch h) hR₂ fun s₃ hR₃ => ?_
  by_cases hp : p < buf.length
  · rw [show decide ((buf.length : Int) ≤ (p : Int)) = false from decide_eq_false (by omega)]
    refine xifAt (ok _) 30 (decide (((p : Int) + 1) < (buf.length : Int))) (ioAtt buf p, ()) [] 6 (by kernel_rfl) (by kernel_rfl) (by kernel_rfl) (fun _ h => nomatch h) hR₃ fun s₄ hR₄ => ?_
    have fin : ∀ s', RF s (hideAll s.heap (d :: ([] : List (Addr × Obj)).map (·.1))) (envAt fRead L 551) L (LedS w x d fun _ _ => True) [(selfN, .val (.ref x)), (sN "size", .int 1), (sN "start", .int p), (sN "stop", .int ((p : Int) + 1))] (ioAtt buf ((p : Int) + 1), ()) s' →
        ∀ f, FlowSim f (.ret (.str (pcut buf (some p) (some (p + 1))))) → R (.ok (.ret (flowV f))) s' := fun s' hR' f hf => by
      cases f <;> first | exact hf.elim | skip
      refine post _ _ hf ?_
      rw [if_pos hp]
      exact hR'.outS rfl
    by_cases hq : p + 1 < buf.length
    · rw [show decide (((p : Int) + 1) < (buf.length : Int)) = true from decide_eq_true (by omega)]
      exact xrun (ok _) 30 (.ret (.str (pcut buf (some p) (some (p + 1))))) [(selfN, .val (.ref x)), (sN "size", .int 1), (sN "start", .int p), (sN "stop", .int ((p : Int) + 1))] (ioAtt buf ((p : Int) + 1), ()) [buf.length] (by kernel_rfl) (by simpa using hsz) hR₄ fin
    · rw [show decide (((p : Int) + 1) < (buf.length : Int)) = false from decide_eq_false (by omega)]
      have he : (buf.length : Int) = (p : Int) + 1 := by omega
      rw [he] at hR₄
      exact xrun (ok _) 30 (.ret (.str (pcut buf (some p) (some (p + 1))))) [(selfN, .val (.ref x)), (sN "size", .int 1), (sN "start", .int p), (sN "stop", .int ((p : Int) + 1))] (ioAtt buf ((p : Int) + 1), ()) [buf.length] (by kernel_rfl) (by simpa using hsz) hR₄ fin
  · rw [show decide ((buf.length : Int) ≤ (p : Int)) = true from decide_eq_true (by omega)]
    refine xrun (ok _) 30 (.ret (.str [])) [(selfN, .val (.ref x)), (sN "size", .int 1), (sN "start", .int p), (sN "stop", .int buf.length)] (ioAtt buf p, ()) [] (by kernel_rfl) (fun _ h => nomatch h) hR₃ fun s' hR' f hf => ?_
    cases f <;> first | exact hf.elim | skip
    have e : pcut buf (some p) (some (p + 1)) = [] := by
      unfold pcut
      exact List.drop_eq_nil_of_le (by rw [List.length_take]; simp only [Option.getD_some]; omega)
    refine post _ _ (by rw [e]; exact hf) ?_
    rw [if_neg hp]
    exact hR'.outS rfl
end
end Mine
end -- C4
section -- D0
set_option maxRecDepth 100000
namespace Mine

/-- a method whose object's dict is seen through a state of one's own -/
structure View (ε : Type) where
  att : ε → Loc
  set : ε → Str → MV → Option ε
  ok : ∀ e a v e', set e a v = some e' → att e' = put a v (att e) ∧ okMV v = true ∧ (att e').length ≤ 101
noncomputable def viewFace {ε : Type} (V : View ε) (w : World) (sc : Scope) (asg oks : List Str) (x : Addr) (hookE : Expr → Loc → ε → Option (MV × ε)) (hookS : Stmt → Loc → ε → Option (Loc × ε)) (callV : Value → List MV → ε → Option (MV × ε)) : Face ε where
  selfV := fun y => if y == selfN then some (.ref x) else none
  getA := fun e y a => if y == selfN && oks.contains a then (V.att e).lookup a else none
  setA := fun e y a v => if y == selfN && oks.contains a then V.set e a v else none
  hookE := hookE
  hookS := hookS
  hookT := fun _ _ _ => none
  asgN := asg
  gfun := gF w sc
  callV := callV

noncomputable def LedV {ε : Type} (V : View ε) (w : World) (x d : Addr) (Led2 : ε → List (Addr × Obj) → Prop) (e : ε) (m : Str → Option Value) (own : List (Addr × Obj)) : Prop :=
  m selfN = some (.ref x) ∧ ∃ es n rest, own = (d, dictOf es n) :: rest ∧ AttRel w (V.att e) es ∧ (V.att e).length ≤ 101 ∧ (∀ p ∈ rest, p.1 ≠ d) ∧ Led2 e rest

section
variable {w : World} {mg mb : Str → Option Value} {g : Heap} {A : Around} {E : Value → Shared → Prop} {L f : Addr} {qual : Str} {sc : Scope} {cd : Value} {s₀ : Shared} {asg oks : List Str}

theorem viewHyp {ε : Type} {V : View ε} {x d C : Addr} {hookE : Expr → Loc → ε → Option (MV × ε)} {hookS : Stmt → Loc → ε → Option (Loc × ε)} {callV : Value → List MV → ε → Option (MV × ε)} {Led2 : ε → List (Addr × Obj) → Prop}
    (hl2 : ∀ e a v e' rest, V.set e a v = some e' → Led2 e rest → Led2 e' rest)
    (Bs : Base w mg mb g) (hk : sc.kind = .function) (hself : sc.names.lookup selfN = some .local) (hasg : asgOk sc asg = true) (hoks : (oks.all fun a => attOk (KK w) C a) = true) (hcls : clsOk (KK w) C = true) (hx : g.get? x = some (instObj C d))
    (hE : ∀ {loc x' s e v x''} {Q : Value → Shared → Prop}, RF s₀ g (envOf qual sc L f cd) L (LedV V w x d Led2) loc x' s → hookE e loc x' = some (v, x'') → (∀ v' s', Sim v' v → RF s₀ g (envOf qual sc L f cd) L (LedV V w x d Led2) loc x'' s' → Q v' s') → wpAny (model PG w) A (eval e (envOf qual sc L f cd)) Q E s)
    (hS : ∀ {loc x' s st loc' x''} {Q : Flow → Shared → Prop}, RF s₀ g (envOf qual sc L f cd) L (LedV V w x d Led2) loc x' s → hookS st loc x' = some (loc', x'') → (∀ s', RF s₀ g (envOf qual sc L f cd) L (LedV V w x d Led2) loc' x'' s' → Q .next s') → wpAny (model PG w) A (exec st (envOf qual sc L f cd)) Q E s)
    (hC : ∀ {loc x' s fv vs mvs v x''} {Q : Value → Shared → Prop}, RF s₀ g (envOf qual sc L f cd) L (LedV V w x d Led2) loc x' s → callV fv mvs x' = some (v, x'') → Sims vs mvs → (∀ v' s', Sim v' v → RF s₀ g (envOf qual sc L f cd) L (LedV V w x d Led2) loc x'' s' → Q v' s') → wpAny (model PG w) A (PySem.call fv vs) Q E s) :
    FrameHyp (viewFace V w sc asg oks x hookE hookS callV) PG w A E (envOf qual sc L f cd) L g s₀ (LedV V w x d Led2) where
  asg := fun y hy => let ⟨a, b, _⟩ := asgOk_mem hasg hy; ⟨a, b⟩
  led := fun e m own y v hy h => by
    obtain ⟨h1, h2⟩ := h
    refine ⟨?_, h2⟩
    show (if selfN = y then some v else m selfN) = some (.ref x)
    rw [if_neg (Ne.symm (asgOk_mem hasg hy).2.2)]
    exact h1
  self := fun e m own y o h hs => by
    have hs : (if y == selfN then some (Value.ref x) else none) = some o := hs
    split at hs
    · rename_i q
      cases hs
      have : y = selfN := eq_of_beq q
      subst this
      exact ⟨h.1, hself, by decide⟩
    · cases hs
  get := fun {loc e s y o a mv Q} hR hs hg hQ => by
    have hs : (if y == selfN then some (Value.ref x) else none) = some o := hs
    have hg : (if y == selfN && oks.contains a then (V.att e).lookup a else none) = some mv := hg
    split at hs
    · cases hs
      split at hg
      · rename_i q
        have q2 := (Bool.and_eq_true_iff.mp q).2
        have hok := List.all_eq_true.mp hoks a (List.contains_iff_mem.mp q2)
        obtain ⟨h1, m, own, F, N, l, hm, es, n, rest, rfl, hr, hz, hd, h2⟩ := hR
        exact att_get F Bs.X N (F.keep _ _ hx) hr hok hg fun v hv => hQ _ _ hv ⟨h1.put _ _, m, _, F, N, l, hm, es, n, rest, rfl, hr, hz, hd, h2⟩
      · cases hg
    · cases hs
  set := fun {loc e s y o a v mv e' Q} hR hs hg hv hQ => by
    have hs : (if y == selfN then some (Value.ref x) else none) = some o := hs
    have hg : (if y == selfN && oks.contains a then V.set e a mv else none) = some e' := hg
    split at hs
    · cases hs
      split at hg
      · rename_i q
        obtain ⟨v1, v2, v3⟩ := V.ok _ _ _ _ hg
        have hok := List.all_eq_true.mp hoks a (List.contains_iff_mem.mp (Bool.and_eq_true_iff.mp q).2)
        obtain ⟨h1, m, own, F, N, l, hm, es, n, rest, rfl, hr, hz, hd, h2⟩ := hR
        exact att_set F Bs.X N (F.keep _ _ hx) hr hcls hok hv v2 hd (by omega) fun h' es' n' F' N' hr' => hQ _ ⟨h1.put _ _, m, _, F', N', l, hm, es', n', rest, rfl, v1 ▸ hr', v3, hd, hl2 _ _ _ _ _ hg h2⟩
      · cases hg
    · cases hs
  hookE := hE
  hookS := hS
  hookT := fun _ h => (by cases h)
  gname := fun hR hf q => by
    obtain ⟨_, m, own, F, _⟩ := hR
    exact gF_name Bs F hk hf q
  keeper := fun hR hf => by
    obtain ⟨_, m, own, F, _⟩ := hR
    exact gF_keeper (Bs.keeps F.keep).X hf
  call := fun hR _ hc hs hQ => hC hR hc hs hQ
end

/-- what stands behind a method's call -/
noncomputable def OutV {ε : Type} (V : View ε) (w : World) (s s' : Shared) (d : Addr) (own2 : List Addr) (e : ε) (Led2 : ε → List (Addr × Obj) → Prop) : Prop :=
  SameRest s s' ∧ (∀ b o, s.heap.get? b = some o → b ∉ d :: own2 → s'.heap.get? b = some o) ∧ ∃ es n rest, s'.heap.get? d = some (dictOf es n) ∧ AttRel w (V.att e) es ∧ (∀ p ∈ rest, s'.heap.get? p.1 = some p.2) ∧ Led2 e rest
section
variable {w : World} {mg mb : Str → Option Value} {b₀ : Heap} {A : Around} {s : Shared} {fd : FuncData} {f : Addr} {R : Result → Shared → Prop}

theorem RF.outV {ε : Type} {V : View ε} {g : Heap} {env : Env} {L x d : Addr} {Led2 : ε → List (Addr × Obj) → Prop} {loc : Loc} {e : ε} {s s' : Shared} {own2 : List Addr} (hg : g = hideAll s.heap (d :: own2)) (h : RF s g env L (LedV V w x d Led2) loc e s') : OutV V w s s' d own2 e Led2 := by
  obtain ⟨h1, m, own, F, N, l, hm, es, n, rest, rfl, hr, hz, hd, h2⟩ := h
  subst hg
  exact ⟨h1, fun b o e hb => hide_keeps F e hb, es, n, rest, (N _ (.head _)).1, hr, fun p hp => (N p (.tail _ hp)).1, h2⟩

theorem enterView {ε : Type} (V : View ε) {x d C : Addr} {es : List DictEntry} {n : Nat} {e₀ : ε} {Led2 : ε → List (Addr × Obj) → Prop} (names : List Str) {vs : List Value} {mvs : List MV} (asg oks : List Str) (own2 : List (Addr × Obj))
    (hookE : Expr → Loc → ε → Option (MV × ε)) (hookS : Stmt → Loc → ε → Option (Loc × ε)) (callV : Value → List MV → ε → Option (MV × ε))
    (Bs : Base w mg mb b₀) (st : b₀.StaysIn s.heap) (ff : FnFacts w f fd) (hroom : A.depth < recursionLimit) (hs : Sims vs mvs)
    (hb : runK (KK w) 100 (bindArgs fd ⟨.ref x :: vs, []⟩) = some ((selfN :: names).zip (.ref x :: vs))) (hn : namesOk fd.scope (selfN :: names) = true) (hasg : asgOk fd.scope asg = true)
    (hoks : (oks.all fun a => attOk (KK w) C a) = true) (hcls : clsOk (KK w) C = true)
    (hx : s.heap.get? x = some (instObj C d)) (hd : s.heap.get? d = some (dictOf es n)) (hd0 : b₀.get? d = none) (hr : AttRel w (V.att e₀) es) (hlen : (V.att e₀).length ≤ 101) (hl2s : ∀ e a v e' rest, V.set e a v = some e' → Led2 e rest → Led2 e' rest)
    (hown : ∀ p ∈ own2, s.heap.get? p.1 = some p.2 ∧ b₀.get? p.1 = none) (hne : ∀ p ∈ own2, p.1 ≠ d) (hxo : x ∉ own2.map (·.1)) (hl2 : Led2 e₀ own2)
    (hooks : ∀ L, Base w mg mb (hideAll s.heap (d :: own2.map (·.1))) → b₀.StaysIn (hideAll s.heap (d :: own2.map (·.1))) → Hooks w (A.deeper (envAt fd L f)) (envAt fd L f) (RF s (hideAll s.heap (d :: own2.map (·.1))) (envAt fd L f) L (LedV V w x d Led2)) hookE hookS callV)
    (h : ∀ L s₁, (∀ E, FaceOk (viewFace V w fd.scope asg oks x hookE hookS callV) PG w (A.deeper (envAt fd L f)) (envAt fd L f) E (RF s (hideAll s.heap (d :: own2.map (·.1))) (envAt fd L f) L (LedV V w x d Led2))) →
      RF s (hideAll s.heap (d :: own2.map (·.1))) (envAt fd L f) L (LedV V w x d Led2) ((selfN :: names).zip (.val (.ref x) :: mvs)) e₀ s₁ → s.heap.get? L = none → b₀.get? L = none →
      wpAny (model PG w) (A.deeper (envAt fd L f)) (execs (bodyOf fd) (envAt fd L f)) (fun fl s' => R (.ok (.ret (flowV fl))) s')
        (fun e s' => wpAny (model PG w) (A.deeper (envAt fd L f)) (leaving (envAt fd L f) e) (fun _ s'' => R (.error e) s'') (fun e' s'' => R (.error e') s'') s') s₁) :
    codeAny (model PG w) A (.call (.ref f) ⟨.ref x :: vs, []⟩) R s := by
  have hxd : x ≠ d := fun e => by rw [e, hd] at hx; cases hx
  refine enterF ((d, dictOf es n) :: own2) Bs st ff hroom (binds_run (Bs.keeps st) 100 hb) (namesOk_locs hn _) ?_ fun L h₁ F N stg hL hL0 hk => ?_
  · intro p hp
    rcases List.mem_cons.mp hp with rfl | hp
    · exact ⟨hd, hd0⟩
    · exact hown p hp
  · have l := locRel_init (env := envAt fd L f) (selfN :: names) (.ref x :: vs) (.val (.ref x) :: mvs) (namesOk_nodup hn) (.cons rfl hs) (namesOk_mem hn)
    have hself : fd.scope.names.lookup selfN = some .local := (namesOk_mem hn selfN (.head _)).1
    have hxg : (hideAll s.heap (d :: own2.map (·.1))).get? x = some (instObj C d) := hideAll_get _ hx fun q => by
      rcases List.mem_cons.mp q with q | q
      · exact hxd q
      · exact hxo q
    have hh := hooks L (Bs.keeps stg) stg
    refine wpAny_mono (h L _ (fun E => frameOk hk (viewHyp hl2s (qual := fd.qualname) (sc := fd.scope) (L := L) (f := f) (cd := fd.code) (s₀ := s) (Bs.keeps stg) hk hself hasg hoks hcls hxg hh.e hh.s hh.c)) ?_ hL hL0) (fun fl s' q => ?_) fun _ _ q => q
    · obtain ⟨v, hv, hsv, _⟩ := l selfN (.val (.ref x)) (by simp [List.zip_cons_cons])
      cases hsv
      exact ⟨⟨rfl, rfl, rfl⟩, _, _, F, N, l, hv, es, n, own2, rfl, hr, hlen, hne, hl2⟩
    · cases fl <;> exact q
end
end Mine
end -- D0
section -- D1
set_option maxRecDepth 100000
namespace Mine

/-- the lexer's states -/
inductive LS where
  | fin | sp | a | q (c : Nat) | esc
noncomputable def lsMV : LS → MV
  | .fin => .none
  | .sp => .str [32]
  | .a => .str [97]
  | .q c => .str [c]
  | .esc => .str [92]
noncomputable def wcL : List Nat := (sN "abcdfeghijklmnopqrstuvwxyzABCDEFGHIJKLMNOPQRSTUVWXYZ0123456789_").cps.toList ++ (sN "ßàáâãäåæçèéêëìíîïðñòóôõöøùúûüýþÿÀÁÂÃÄÅÆÇÈÉÊËÌÍÎÏÐÑÒÓÔÕÖØÙÚÛÜÝÞ").cps.toList
noncomputable def lexAtt (io pb fs : Addr) (st : MV) (tok : List Nat) : Loc :=
  [(sN "instream", .val (.ref io)), (sN "infile", .none), (sN "posix", .bool true), (sN "eof", .none), (sN "commenters", .str []), (sN "wordchars", .str wcL), (sN "whitespace", .str [32, 9, 13, 10]), (sN "whitespace_split", .bool true),
   (sN "quotes", .str [39, 34]), (sN "escape", .str [92]), (sN "escapedquotes", .str [34]), (sN "state", st), (sN "pushback", .val (.ref pb)), (sN "lineno", .int 1), (sN "debug", .int 0), (sN "token", .str tok), (sN "filestack", .val (.ref fs)), (sN "source", .none), (sN "_punctuation_chars", .str [])]
noncomputable def lexOks : List Str := [sN "instream", sN "infile", sN "posix", sN "eof", sN "commenters", sN "wordchars", sN "whitespace", sN "whitespace_split", sN "quotes", sN "escape", sN "escapedquotes", sN "state", sN "pushback", sN "lineno", sN "debug", sN "token", sN "filestack", sN "source", sN "_punctuation_chars"]
theorem lexOks_ok (w : World) : (lexOks.all fun a => attOk (KK w) 740 a) = true := by kernel_rfl
theorem lexCls_ok (w : World) : clsOk (KK w) 740 = true := by kernel_rfl

noncomputable def fPunct : FuncData := fdAt 671
theorem ff_punct (w : World) : FnFacts w 671 fPunct := ⟨by kernel_rfl, by kernel_rfl⟩
noncomputable def fTok : FuncData := fdAt 708
theorem ff_tok (w : World) : FnFacts w 708 fTok := ⟨by kernel_rfl, by kernel_rfl⟩

section
variable {w : World} {mg mb : Str → Option Value} {b₀ : Heap} {A : Around} {s : Shared} {R : Result → Shared → Prop} {x d io pb fs : Addr} {es : List DictEntry} {n : Nat} {st : MV} {tok : List Nat}
theorem punct_c (Bs : Base w mg mb b₀) (sy : b₀.StaysIn s.heap) (hroom : A.depth < 900) (hx : s.heap.get? x = some (instObj 740 d)) (hd : s.heap.get? d = some (dictOf es n)) (hd0 : b₀.get? d = none) (hr : AttRel w (lexAtt io pb fs st tok) es)
    (post : ∀ v s', Sim v (.str []) → OutS w s s' d [] (lexAtt io pb fs st tok) () (fun _ _ => True) → R (.ok (.ret v)) s') : codeAny (model PG w) A (.call (.ref 671) ⟨[.ref x], []⟩) R s := by
  have hrl : recursionLimit = 1000 := rfl
  refine enterSelf (η := Unit) (e₀ := ()) (Led2 := fun _ _ => True) [] [] lexOks [] noE noS noC Bs sy (ff_punct w) (by omega) .nil (by kernel_rfl) (by kernel_rfl) (by kernel_rfl) (lexOks_ok w) (lexCls_ok w) hx hd hd0 hr (Nat.le_of_ble_eq_true rfl)
    (fun _ h => nomatch h) (fun _ h => nomatch h) (fun h => nomatch h) trivial (fun L _ _ => noHooks) fun L s₁ ok hR hL hL0 => ?_
  refine xrun (ok _) 20 (.ret (.str [])) [(selfN, .val (.ref x))] (lexAtt io pb fs st tok, ()) [] (by kernel_rfl) (fun _ h => nomatch h) hR fun s' hR' fl hfl => ?_
  cases fl <;> first | exact hfl.elim | exact post _ _ hfl (hR'.outS rfl)
end
end Mine
end -- D1
section -- D2
set_option maxRecDepth 100000
namespace Mine

structure LX where
  st : MV
  tok : List Nat
  buf : List Nat
  p : Nat
theorem put_state (io pb fs : Addr) (st v : MV) (tok : List Nat) : put (sN "state") v (lexAtt io pb fs st tok) = lexAtt io pb fs v tok := by kernel_rfl
theorem put_token (io pb fs : Addr) (st : MV) (tok t : List Nat) : put (sN "token") (.str t) (lexAtt io pb fs st tok) = lexAtt io pb fs st t := by kernel_rfl
noncomputable def lexView (io pb fs : Addr) : View LX where
  att := fun e => lexAtt io pb fs e.st e.tok
  set := fun e a v => if a == sN "state" && okMV v then some { e with st := v } else if a == sN "token" then (match v with | .str t => some { e with tok := t } | _ => none) else none
  ok := fun e a v e' h => by
    split at h
    · rename_i q
      cases h
      simp only [Bool.and_eq_true, beq_iff_eq] at q
      obtain ⟨rfl, q⟩ := q
      exact ⟨(put_state ..).symm, q, Nat.le_of_ble_eq_true rfl⟩
    · split at h
      · rename_i q
        have q := eq_of_beq q
        subst q
        split at h
        · cases h; exact ⟨(put_token ..).symm, rfl, Nat.le_of_ble_eq_true rfl⟩
        · cases h
      · cases h
noncomputable def LedIO (w : World) (dio : Addr) (e : LX) (rest : List (Addr × Obj)) : Prop := ∃ es n, rest = [(dio, dictOf es n)] ∧ AttRel w (ioAtt e.buf e.p) es ∧ e.buf.length ≤ 100000
theorem LedIO_set {io pb fs dio : Addr} {w : World} : ∀ e a v e' rest, (lexView io pb fs).set e a v = some e' → LedIO w dio e rest → LedIO w dio e' rest := by
  intro e a v e' rest h hl
  have h : (if a == sN "state" && okMV v then some { e with st := v } else if a == sN "token" then (match v with | .str t => some { e with tok := t } | _ => none) else none) = some e' := h
  split at h
  · cases h; exact hl
  · split at h
    · split at h
      · cases h; exact hl
      · cases h
    · cases h

theorem RF.after2 {w : World} {io pb fs : Addr} {s₀ s s' : Shared} {g : Heap} {env : Env} {L x d dio : Addr} {loc : Loc} {e : LX} {p' : Nat} (h : RF s₀ g env L (LedV (lexView io pb fs) w x d (LedIO w dio)) loc e s) (o : OutS w s s' dio [] (ioAtt e.buf (p' : Int)) () (fun _ _ => True)) :
    RF s₀ g env L (LedV (lexView io pb fs) w x d (LedIO w dio)) loc { e with p := p' } s' := by
  obtain ⟨h1, m, own, F, N, l, hm, es, n, rest, rfl, hr, hz, hd, es2, n2, rfl, hr2, hl2⟩ := h
  obtain ⟨o1, o2, es', n', _, o3, o4, _⟩ := o
  have D := N _ (.head _)
  have D2 := N _ (.tail _ (.head _))
  have hne : dio ≠ d := hd _ (.head _)
  refine ⟨h1.trans o1, m, [(d, dictOf es n), (dio, dictOf es' n')], frAfter F o2 (fun b hb => ?_), fun p hp => ?_, l, hm, es, n, [(dio, dictOf es' n')], rfl, hr, hz, ?_, es', n', rfl, o4, hl2⟩
  · cases hb with
    | head => exact ⟨D2.2.1, D2.2.2⟩
    | tail _ q => exact nomatch q
  · cases hp with
    | head => exact ⟨o2 _ _ D.1 (by simpa using Ne.symm hne), D.2⟩
    | tail _ q => cases q with
      | head => exact ⟨o3, D2.2⟩
      | tail _ q => exact nomatch q
  · intro p hp
    cases hp with
    | head => exact hne
    | tail _ q => exact nomatch q
theorem RF.afterD {w : World} {io pb fs : Addr} {s₀ s s' : Shared} {g : Heap} {env : Env} {L x d dio : Addr} {loc : Loc} {e : LX} (h : RF s₀ g env L (LedV (lexView io pb fs) w x d (LedIO w dio)) loc e s) (o : OutS w s s' d [] (lexAtt io pb fs e.st e.tok) () (fun _ _ => True)) :
    RF s₀ g env L (LedV (lexView io pb fs) w x d (LedIO w dio)) loc e s' := by
  obtain ⟨h1, m, own, F, N, l, hm, es, n, rest, rfl, hr, hz, hd, h2⟩ := h
  obtain ⟨o1, o2, es', n', _, o3, o4, _⟩ := o
  have D := N _ (.head _)
  refine ⟨h1.trans o1, m, (d, dictOf es' n') :: rest, frAfter F o2 (fun b hb => ?_), fun p hp => ?_, l, hm, es', n', rest, rfl, o4, hz, hd, h2⟩
  · cases hb with
    | head => exact ⟨D.2.1, D.2.2⟩
    | tail _ q => exact nomatch q
  · rcases List.mem_cons.mp hp with rfl | hp
    · exact ⟨o3, D.2⟩
    · have P := N p (.tail _ hp)
      exact ⟨o2 _ _ P.1 fun q => hd p hp (by simpa using q), P.2⟩

noncomputable def tokE : Expr → Loc → LX → Option (MV × LX) := fun e _ x => match asAttr e with
  | some q => cond (q.1 == selfN && q.2 == sN "punctuation_chars") (some (.str [], x)) none
  | none => (asMeth e).bind fun c => (asAttr c.o).bind fun q => (as1 c.args).bind fun g => (asCInt g).bind fun i => cond (q.1 == selfN && q.2 == sN "instream" && c.a == sN "read" && c.line && i == 1)
    (some (.str (pcut x.buf (some x.p) (some (x.p + 1))), { x with p := if x.p < x.buf.length then x.p + 1 else x.p })) none

theorem meth_read (w : World) : methOk (KK w) 605 551 (sN "read") = true := by kernel_rfl
theorem in_oks (w : World) : attOk (KK w) 740 (sN "instream") = true := by kernel_rfl
section
variable {w : World} {mg mb : Str → Option Value} {b₀ : Heap} {A : Around} {s : Shared} {x d io dio pb fs : Addr}
theorem tokHooks (Bs : Base w mg mb b₀) (hroom : A.depth < 880) (L : Addr) (g : Heap) (Bg : Base w mg mb g) (sy : b₀.StaysIn g) (hx : g.get? x = some (instObj 740 d)) (hio : g.get? io = some (instObj 605 dio)) (hd0 : b₀.get? d = none) (hdio0 : b₀.get? dio = none) :
    Hooks w A (envAt fTok L 708) (RF s g (envAt fTok L 708) L (LedV (lexView io pb fs) w x d (LedIO w dio))) tokE noS noC where
  e := fun {E loc e s₁ ex v e' Q} hR h hQ => by
    unfold tokE at h
    cases hat : asAttr ex with
    | some q0 =>
        rw [hat] at h
        refine cnd h fun q h => ?_
        cases (Option.some.inj h)
        obtain ⟨yp, ap, rfl⟩ := asAttr_eq hat
        simp only [Bool.and_eq_true, beq_iff_eq] at q
        obtain ⟨y, a⟩ := q0
        obtain ⟨rfl, rfl⟩ := q
        have hR' := hR
        obtain ⟨h1, m, own, F, N, l, hm, es, n, rest, rfl, hr, hz, hd, es2, n2, rfl, hr2, hl2⟩ := hR
        refine Attribute_name (ld F hm ?_ rfl rfl rfl)
        refine get_prop (p := 672) (fget := 671) (rest := [.none, .none, .none, .str (sN "punctuation_chars") 1064, .bool false]) F Bg.X (od := dictOf es n) ⟨F.keep _ _ hx, rfl, rfl, (N _ (.head _)).1⟩ (by kernel_rfl) (by kernel_rfl) (by kernel_rfl) (by kernel_rfl) (by kernel_rfl) (by kernel_rfl) ?_
        refine punct_c Bs (fun b' o e => F.keep b' o (sy b' o e)) (by show A.depth < 900; omega) (F.keep _ _ hx) (N _ (.head _)).1 hd0 hr fun v s' hv ho => ?_
        obtain ⟨t, rfl⟩ := hv
        exact wpAny_pure (hQ _ _ ⟨t, rfl⟩ ((hR'.toks _).afterD ho))
    | none =>
        rw [hat] at h
        refine bnd h fun c hc h => bnd h fun q0 hq0 h => bnd h fun g hg h => bnd h fun i hi h => cnd h fun q h => ?_
        cases (Option.some.inj h)
        clear hat
        obtain rfl := asMeth_eq hc
        obtain ⟨o, r, ap, args, p⟩ := c
        obtain ⟨yp, ip, e0⟩ := asAttr_eq hq0
        obtain ⟨cp, cq, e1⟩ := asCInt_eq hi
        have e2 := as1_eq hg
        obtain ⟨y, i0⟩ := q0
        dsimp only at e0 e2 q
        subst e1 e0 e2
        simp only [Bool.and_eq_true, beq_iff_eq] at q
        obtain ⟨⟨⟨⟨rfl, rfl⟩, rfl⟩, q4⟩, rfl⟩ := q
        have hR' := hR
        obtain ⟨h1, m, own, F, N, l, hm, es, n, rest, rfl, hr, hz, hd, es2, n2, rfl, hr2, hl2⟩ := hR
        have hml := meth_read w
        unfold methOk at hml
        simp only [Bool.and_eq_true, beq_iff_eq] at hml
        obtain ⟨⟨⟨m1, m2⟩, m3⟩, m4⟩ := hml
        refine wp_method rfl q4 rfl (Attribute_name (ld F hm ?_ rfl rfl rfl))
        refine att_get F Bg.X N (F.keep _ _ hx) hr (in_oks w) (mv := .val (.ref io)) (by kernel_rfl) fun v hv => ?_
        cases hv
        refine method_inst (s := { s₁ with toks := s₁.toks + 1 }) F Bg.X ⟨F.keep _ _ hio, rfl, rfl, (N _ (.tail _ (.head _))).1⟩ m1 m2 m3 (hr2.miss (by kernel_rfl)) ?_
        refine callWith_K Bg.X m4 (wpAny_items_cons (wpAny_Constant_int (wpAny_items_nil ⟨(Bg.keeps F.keep).X, ?_⟩)) rfl) rfl rfl
        refine wpAny_call (read_c (s := { s₁ with toks := s₁.toks + 1 + 1 }) (t := .int 1 (s₁.toks + 1)) Bs (fun b' o e => F.keep b' o (sy b' o e)) (by omega) ⟨_, rfl⟩ (F.keep _ _ hio) (N _ (.tail _ (.head _))).1 hdio0 hr2 hl2 fun v s' hv ho => ?_)
        exact hQ _ _ hv ((hR'.toks (s₁.toks + 1 + 1)).after2 ho)
  s := fun _ h => (by cases h)
  c := fun _ h => (by cases h)
end
end Mine
end -- D2
section -- D3
set_option maxRecDepth 100000
namespace Mine

inductive TR where
  | cont (st : LS) (q : Bool) (e : Nat) (tok : List Nat)
  | brk (st : LS) (q : Bool) (tok : List Nat)
  | rz
noncomputable def isWs (c : Nat) : Bool := c == 32 || c == 9
/-- one turn of read_token's loop -/
noncomputable def turn (st : LS) (q : Bool) (e : Nat) (tok : List Nat) (c : Option Nat) : TR := match st, c with
  | .fin, _ => .brk .fin q []
  | .sp, none => .brk .fin q tok
  | .sp, some c => if isWs c then (if !tok.isEmpty || q then .brk .sp q tok else .cont .sp q e tok) else if c == 92 then .cont .esc q 97 tok else if c == 39 || c == 34 then .cont (.q c) q e tok else .cont .a q e [c]
  | .q _, none => .rz
  | .q k, some c => if c == k then .cont .a true e tok else if c == 92 && k == 34 then .cont .esc true 34 tok else .cont (.q k) true e (tok ++ [c])
  | .esc, none => .rz
  | .esc, some c => .cont (if e == 34 then .q 34 else .a) q e (if e == 34 && c != 92 && c != 34 then tok ++ [92] ++ [c] else tok ++ [c])
  | .a, none => .brk .fin q tok
  | .a, some c => if isWs c then (if !tok.isEmpty || q then .brk .sp q tok else .cont .sp q e tok) else if c == 39 || c == 34 then .cont (.q c) q e tok else if c == 92 then .cont .esc q 97 tok else .cont .a q e (tok ++ [c])

noncomputable def whB : Stmt → List Stmt
  | .While _ b _ _ => b
  | _ => []
noncomputable def whT : Stmt → Expr
  | .While t _ _ _ => t
  | _ => .Name (sN "") ⟨0, 0, 0, 0⟩
noncomputable def rtLoop : List Stmt := whB (stAt (bodyOf fTok) 2)
noncomputable def rtTail : List Stmt := rtLoop.drop 1
noncomputable def asgT : List Str := [sN "quoted", sN "escapedstate", sN "nextchar", sN "result"]
noncomputable def tokFace (w : World) (x io pb fs : Addr) : Face LX := viewFace (lexView io pb fs) w fTok.scope asgT lexOks x tokE noS noC
noncomputable def locT (x : Addr) (q : Bool) (e : Nat) (c : Option Nat) : Loc := [(selfN, .val (.ref x)), (sN "quoted", .bool q), (sN "escapedstate", .str [e]), (sN "nextchar", .str c.toList)]
noncomputable def rzOk (st : Stmt) : Bool := ((asRaise st).bind fun e => (asCall e).bind fun q => (asName q.1).bind fun n => (as1 q.2.1).bind fun a => (asTxt a).bind fun _ => cond (n == sN "ValueError") (some ()) none).isSome
theorem rzOk_eq {st : Stmt} (h : rzOk st = true) : ∃ np c k cp cpos pos, st = .Raise (some (.Call (.Name (sN "ValueError") np) [.Constant (.str c) k cp] [] cpos)) none pos := by
  obtain ⟨u, h⟩ := Option.isSome_iff_exists.mp h
  refine bnd h fun e he h => bnd h fun q hq h => bnd h fun n hn h => bnd h fun a ha h => bnd h fun t ht h => cnd h fun c _ => ?_
  obtain ⟨p, rfl⟩ := asRaise_eq he
  obtain rfl := asCall_eq hq
  obtain ⟨np, e1⟩ := asName_eq hn
  obtain ⟨k, cp, rfl⟩ := asTxt_eq ht
  rw [e1, as1_eq ha, eq_of_beq c]
  exact ⟨np, t, k, cp, _, p, rfl⟩
noncomputable def getAt {ε : Type} : Option (PFlow × Loc × ε × List Nat) → Stmt
  | some (.at st, _) => st
  | _ => .Pass ⟨0, 0, 0, 0⟩

noncomputable def TurnOk (w : World) (x io pb fs : Addr) (st : LS) (q : Bool) (e : Nat) (tok buf : List Nat) (p : Nat) (c : Option Nat) : Prop := match turn st q e tok c with
  | .cont st' q' e' tok' => ∃ fl o, (fl = PFlow.next ∨ fl = PFlow.cont) ∧ pexec (tokFace w x io pb fs) 60 rtTail (locT x q e c) ⟨lsMV st, tok, buf, p⟩ = some (fl, locT x q' e' c, ⟨lsMV st', tok', buf, p⟩, o) ∧ ∀ k ∈ o, k ≤ tok.length + 3
  | .brk st' q' tok' => ∃ e' o, pexec (tokFace w x io pb fs) 60 rtTail (locT x q e c) ⟨lsMV st, tok, buf, p⟩ = some (.brk, locT x q' e' c, ⟨lsMV st', tok', buf, p⟩, o) ∧ ∀ k ∈ o, k ≤ tok.length + 3
  | .rz => ∃ q' o, pexec (tokFace w x io pb fs) 60 rtTail (locT x q e c) ⟨lsMV st, tok, buf, p⟩ = some (.at (getAt (pexec (tokFace w x io pb fs) 60 rtTail (locT x q e c) ⟨lsMV st, tok, buf, p⟩)), locT x q' e c, ⟨lsMV st, tok, buf, p⟩, o) ∧ (∀ k ∈ o, k ≤ tok.length + 3) ∧ rzOk (getAt (pexec (tokFace w x io pb fs) 60 rtTail (locT x q e c) ⟨lsMV st, tok, buf, p⟩)) = true

theorem tb0 (t : List Nat) : ∀ k ∈ ([] : List Nat), k ≤ t.length + 3 := fun _ h => nomatch h
theorem tb2 (t : List Nat) (n : Nat) (h : n ≤ t.length + 3) : ∀ k ∈ [1, n], k ≤ t.length + 3 := fun k hk => by
  rcases List.mem_cons.mp hk with rfl | hk
  · omega
  · rw [List.mem_singleton.mp hk]; exact h
theorem tb1 (t : List Nat) : ∀ k ∈ [1], k ≤ t.length + 3 := fun k hk => tb2 t 1 (by omega) k (by rw [List.mem_singleton.mp hk]; exact .head _)
theorem tbA (t : List Nat) : ∀ k ∈ [1, t.length + 1], k ≤ t.length + 3 := tb2 t _ (by omega)
theorem tbB (t : List Nat) : ∀ k ∈ [1, t.length], k ≤ t.length + 3 := tb2 t _ (by omega)
theorem tbC (t : List Nat) : ∀ k ∈ [1, t.length + 2], k ≤ t.length + 3 := tb2 t _ (by omega)
end Mine
end -- D3
section -- D4
set_option maxRecDepth 100000
namespace Mine
section
variable (w : World) (x io pb fs : Addr) (q : Bool) (e : Nat) (tok buf : List Nat) (p : Nat)
local macro_rules | `(tactic| walk_at "TBound") => `(tactic| first | exact tb0 _ | exact tb1 _ | exact tbA _ | exact tbB _ | exact tbC _ | (intro k hk; simp at hk; (try simp only [List.length_cons]); try omega))
theorem T_sp_97 : TurnOk w x io pb fs .sp q e tok buf p (some 97) := ⟨.next, [1], .inl rfl, by kernel_rfl, by walk_at "TBound"⟩
theorem T_sp_98 : TurnOk w x io pb fs .sp q e tok buf p (some 98) := ⟨.next, [1], .inl rfl, by kernel_rfl, by walk_at "TBound"⟩
theorem T_sp_32 : TurnOk w x io pb fs .sp q e tok buf p (some 32) := by
  cases tok with
  | nil => cases q with
    | false => exact ⟨.cont, [1], .inr rfl, by kernel_rfl, by walk_at "TBound"⟩
    | true => exact ⟨e, [1], by kernel_rfl, by walk_at "TBound"⟩
  | cons t ts => exact ⟨e, [1, (t :: ts).length], by kernel_rfl, by walk_at "TBound"⟩
theorem T_sp_9 : TurnOk w x io pb fs .sp q e tok buf p (some 9) := by
  cases tok with
  | nil => cases q with
    | false => exact ⟨.cont, [1], .inr rfl, by kernel_rfl, by walk_at "TBound"⟩
    | true => exact ⟨e, [1], by kernel_rfl, by walk_at "TBound"⟩
  | cons t ts => exact ⟨e, [1, (t :: ts).length], by kernel_rfl, by walk_at "TBound"⟩
theorem T_sp_39 : TurnOk w x io pb fs .sp q e tok buf p (some 39) := ⟨.next, [1], .inl rfl, by kernel_rfl, by walk_at "TBound"⟩
theorem T_sp_34 : TurnOk w x io pb fs .sp q e tok buf p (some 34) := ⟨.next, [1], .inl rfl, by kernel_rfl, by walk_at "TBound"⟩
theorem T_sp_92 : TurnOk w x io pb fs .sp q e tok buf p (some 92) := ⟨.next, [1], .inl rfl, by kernel_rfl, by walk_at "TBound"⟩
theorem T_sp_35 : TurnOk w x io pb fs .sp q e tok buf p (some 35) := ⟨.next, [1], .inl rfl, by kernel_rfl, by walk_at "TBound"⟩
theorem T_sp_none : TurnOk w x io pb fs .sp q e tok buf p none := ⟨e, [], by kernel_rfl, by walk_at "TBound"⟩
theorem T_a_97 : TurnOk w x io pb fs .a q e tok buf p (some 97) := ⟨.next, [1, tok.length + 1], .inl rfl, by kernel_rfl, by walk_at "TBound"⟩
theorem T_a_98 : TurnOk w x io pb fs .a q e tok buf p (some 98) := ⟨.next, [1, tok.length + 1], .inl rfl, by kernel_rfl, by walk_at "TBound"⟩
theorem T_a_32 : TurnOk w x io pb fs .a q e tok buf p (some 32) := by
  cases tok with
  | nil => cases q with
    | false => exact ⟨.cont, [1], .inr rfl, by kernel_rfl, by walk_at "TBound"⟩
    | true => exact ⟨e, [1], by kernel_rfl, by walk_at "TBound"⟩
  | cons t ts => exact ⟨e, [1, (t :: ts).length], by kernel_rfl, by walk_at "TBound"⟩
theorem T_a_9 : TurnOk w x io pb fs .a q e tok buf p (some 9) := by
  cases tok with
  | nil => cases q with
    | false => exact ⟨.cont, [1], .inr rfl, by kernel_rfl, by walk_at "TBound"⟩
    | true => exact ⟨e, [1], by kernel_rfl, by walk_at "TBound"⟩
  | cons t ts => exact ⟨e, [1, (t :: ts).length], by kernel_rfl, by walk_at "TBound"⟩
theorem T_a_39 : TurnOk w x io pb fs .a q e tok buf p (some 39) := ⟨.next, [1], .inl rfl, by kernel_rfl, by walk_at "TBound"⟩
theorem T_a_34 : TurnOk w x io pb fs .a q e tok buf p (some 34) := ⟨.next, [1], .inl rfl, by kernel_rfl, by walk_at "TBound"⟩
theorem T_a_92 : TurnOk w x io pb fs .a q e tok buf p (some 92) := ⟨.next, [1], .inl rfl, by kernel_rfl, by walk_at "TBound"⟩
theorem T_a_35 : TurnOk w x io pb fs .a q e tok buf p (some 35) := ⟨.next, [1, tok.length + 1], .inl rfl, by kernel_rfl, by walk_at "TBound"⟩
theorem T_a_none : TurnOk w x io pb fs .a q e tok buf p none := ⟨e, [], by kernel_rfl, by walk_at "TBound"⟩
theorem T_q39_97 : TurnOk w x io pb fs (.q 39) q e tok buf p (some 97) := ⟨.next, [1, tok.length + 1], .inl rfl, by kernel_rfl, by walk_at "TBound"⟩
theorem T_q39_98 : TurnOk w x io pb fs (.q 39) q e tok buf p (some 98) := ⟨.next, [1, tok.length + 1], .inl rfl, by kernel_rfl, by walk_at "TBound"⟩
theorem T_q39_32 : TurnOk w x io pb fs (.q 39) q e tok buf p (some 32) := ⟨.next, [1, tok.length + 1], .inl rfl, by kernel_rfl, by walk_at "TBound"⟩
theorem T_q39_9 : TurnOk w x io pb fs (.q 39) q e tok buf p (some 9) := ⟨.next, [1, tok.length + 1], .inl rfl, by kernel_rfl, by walk_at "TBound"⟩
theorem T_q39_39 : TurnOk w x io pb fs (.q 39) q e tok buf p (some 39) := ⟨.next, [1], .inl rfl, by kernel_rfl, by walk_at "TBound"⟩
theorem T_q39_34 : TurnOk w x io pb fs (.q 39) q e tok buf p (some 34) := ⟨.next, [1, tok.length + 1], .inl rfl, by kernel_rfl, by walk_at "TBound"⟩
theorem T_q39_92 : TurnOk w x io pb fs (.q 39) q e tok buf p (some 92) := ⟨.next, [1, tok.length + 1], .inl rfl, by kernel_rfl, by walk_at "TBound"⟩
theorem T_q39_35 : TurnOk w x io pb fs (.q 39) q e tok buf p (some 35) := ⟨.next, [1, tok.length + 1], .inl rfl, by kernel_rfl, by walk_at "TBound"⟩
theorem T_q39_none : TurnOk w x io pb fs (.q 39) q e tok buf p none := ⟨true, [], by kernel_rfl, by walk_at "TBound", by kernel_rfl⟩
theorem T_q34_97 : TurnOk w x io pb fs (.q 34) q e tok buf p (some 97) := ⟨.next, [1, tok.length + 1], .inl rfl, by kernel_rfl, by walk_at "TBound"⟩
theorem T_q34_98 : TurnOk w x io pb fs (.q 34) q e tok buf p (some 98) := ⟨.next, [1, tok.length + 1], .inl rfl, by kernel_rfl, by walk_at "TBound"⟩
theorem T_q34_32 : TurnOk w x io pb fs (.q 34) q e tok buf p (some 32) := ⟨.next, [1, tok.length + 1], .inl rfl, by kernel_rfl, by walk_at "TBound"⟩
theorem T_q34_9 : TurnOk w x io pb fs (.q 34) q e tok buf p (some 9) := ⟨.next, [1, tok.length + 1], .inl rfl, by kernel_rfl, by walk_at "TBound"⟩
theorem T_q34_39 : TurnOk w x io pb fs (.q 34) q e tok buf p (some 39) := ⟨.next, [1, tok.length + 1], .inl rfl, by kernel_rfl, by walk_at "TBound"⟩
theorem T_q34_34 : TurnOk w x io pb fs (.q 34) q e tok buf p (some 34) := ⟨.next, [1], .inl rfl, by kernel_rfl, by walk_at "TBound"⟩
theorem T_q34_92 : TurnOk w x io pb fs (.q 34) q e tok buf p (some 92) := ⟨.next, [1], .inl rfl, by kernel_rfl, by walk_at "TBound"⟩
theorem T_q34_35 : TurnOk w x io pb fs (.q 34) q e tok buf p (some 35) := ⟨.next, [1, tok.length + 1], .inl rfl, by kernel_rfl, by walk_at "TBound"⟩
theorem T_q34_none : TurnOk w x io pb fs (.q 34) q e tok buf p none := ⟨true, [], by kernel_rfl, by walk_at "TBound", by kernel_rfl⟩
theorem T_esc97_97 : TurnOk w x io pb fs .esc q 97 tok buf p (some 97) := ⟨.next, [1, tok.length + 1], .inl rfl, by kernel_rfl, by walk_at "TBound"⟩
theorem T_esc97_98 : TurnOk w x io pb fs .esc q 97 tok buf p (some 98) := ⟨.next, [1, tok.length + 1], .inl rfl, by kernel_rfl, by walk_at "TBound"⟩
theorem T_esc97_32 : TurnOk w x io pb fs .esc q 97 tok buf p (some 32) := ⟨.next, [1, tok.length + 1], .inl rfl, by kernel_rfl, by walk_at "TBound"⟩
theorem T_esc97_9 : TurnOk w x io pb fs .esc q 97 tok buf p (some 9) := ⟨.next, [1, tok.length + 1], .inl rfl, by kernel_rfl, by walk_at "TBound"⟩
theorem T_esc97_39 : TurnOk w x io pb fs .esc q 97 tok buf p (some 39) := ⟨.next, [1, tok.length + 1], .inl rfl, by kernel_rfl, by walk_at "TBound"⟩
theorem T_esc97_34 : TurnOk w x io pb fs .esc q 97 tok buf p (some 34) := ⟨.next, [1, tok.length + 1], .inl rfl, by kernel_rfl, by walk_at "TBound"⟩
theorem T_esc97_92 : TurnOk w x io pb fs .esc q 97 tok buf p (some 92) := ⟨.next, [1, tok.length + 1], .inl rfl, by kernel_rfl, by walk_at "TBound"⟩
theorem T_esc97_35 : TurnOk w x io pb fs .esc q 97 tok buf p (some 35) := ⟨.next, [1, tok.length + 1], .inl rfl, by kernel_rfl, by walk_at "TBound"⟩
theorem T_esc97_none : TurnOk w x io pb fs .esc q 97 tok buf p none := ⟨q, [], by kernel_rfl, by walk_at "TBound", by kernel_rfl⟩
theorem T_esc34_97 : TurnOk w x io pb fs .esc q 34 tok buf p (some 97) := ⟨.next, [1, tok.length + 1, (tok ++ [92]).length + 1], .inl rfl, by kernel_rfl, by walk_at "TBound"⟩
theorem T_esc34_98 : TurnOk w x io pb fs .esc q 34 tok buf p (some 98) := ⟨.next, [1, tok.length + 1, (tok ++ [92]).length + 1], .inl rfl, by kernel_rfl, by walk_at "TBound"⟩
theorem T_esc34_32 : TurnOk w x io pb fs .esc q 34 tok buf p (some 32) := ⟨.next, [1, tok.length + 1, (tok ++ [92]).length + 1], .inl rfl, by kernel_rfl, by walk_at "TBound"⟩
theorem T_esc34_9 : TurnOk w x io pb fs .esc q 34 tok buf p (some 9) := ⟨.next, [1, tok.length + 1, (tok ++ [92]).length + 1], .inl rfl, by kernel_rfl, by walk_at "TBound"⟩
theorem T_esc34_39 : TurnOk w x io pb fs .esc q 34 tok buf p (some 39) := ⟨.next, [1, tok.length + 1, (tok ++ [92]).length + 1], .inl rfl, by kernel_rfl, by walk_at "TBound"⟩
theorem T_esc34_34 : TurnOk w x io pb fs .esc q 34 tok buf p (some 34) := ⟨.next, [1, tok.length + 1], .inl rfl, by kernel_rfl, by walk_at "TBound"⟩
theorem T_esc34_92 : TurnOk w x io pb fs .esc q 34 tok buf p (some 92) := ⟨.next, [1, tok.length + 1], .inl rfl, by kernel_rfl, by walk_at "TBound"⟩
theorem T_esc34_35 : TurnOk w x io pb fs .esc q 34 tok buf p (some 35) := ⟨.next, [1, tok.length + 1, (tok ++ [92]).length + 1], .inl rfl, by kernel_rfl, by walk_at "TBound"⟩
theorem T_esc34_none : TurnOk w x io pb fs .esc q 34 tok buf p none := ⟨q, [], by kernel_rfl, by walk_at "TBound", by kernel_rfl⟩
theorem T_fin_97 : TurnOk w x io pb fs .fin q e tok buf p (some 97) := ⟨e, [], by kernel_rfl, by walk_at "TBound"⟩
theorem T_fin_98 : TurnOk w x io pb fs .fin q e tok buf p (some 98) := ⟨e, [], by kernel_rfl, by walk_at "TBound"⟩
theorem T_fin_32 : TurnOk w x io pb fs .fin q e tok buf p (some 32) := ⟨e, [], by kernel_rfl, by walk_at "TBound"⟩
theorem T_fin_9 : TurnOk w x io pb fs .fin q e tok buf p (some 9) := ⟨e, [], by kernel_rfl, by walk_at "TBound"⟩
theorem T_fin_39 : TurnOk w x io pb fs .fin q e tok buf p (some 39) := ⟨e, [], by kernel_rfl, by walk_at "TBound"⟩
theorem T_fin_34 : TurnOk w x io pb fs .fin q e tok buf p (some 34) := ⟨e, [], by kernel_rfl, by walk_at "TBound"⟩
theorem T_fin_92 : TurnOk w x io pb fs .fin q e tok buf p (some 92) := ⟨e, [], by kernel_rfl, by walk_at "TBound"⟩
theorem T_fin_35 : TurnOk w x io pb fs .fin q e tok buf p (some 35) := ⟨e, [], by kernel_rfl, by walk_at "TBound"⟩
theorem T_fin_none : TurnOk w x io pb fs .fin q e tok buf p none := ⟨e, [], by kernel_rfl, by walk_at "TBound"⟩

noncomputable def alpha : List Nat := [97, 98, 32, 9, 39, 34, 92, 35]
noncomputable def lsOk (st : LS) (e : Nat) : Prop := match st with
  | .q c => c = 39 ∨ c = 34
  | .esc => e = 97 ∨ e = 34
  | _ => True
theorem T_all (st : LS) (c : Option Nat) (hs : lsOk st e) (hc : ∀ k, c = some k → k ∈ alpha) : TurnOk w x io pb fs st q e tok buf p c := by
  cases c with
  | none =>
    cases st with
    | fin => exact T_fin_none w x io pb fs q e tok buf p
    | sp => exact T_sp_none w x io pb fs q e tok buf p
    | a => exact T_a_none w x io pb fs q e tok buf p
    | q k => (rcases hs with rfl | rfl; (exact T_q39_none w x io pb fs q e tok buf p); (exact T_q34_none w x io pb fs q e tok buf p))
    | esc => (rcases hs with rfl | rfl; (exact T_esc97_none w x io pb fs q tok buf p); (exact T_esc34_none w x io pb fs q tok buf p))
  | some k =>
    have hk := hc k rfl
    simp only [alpha, List.mem_cons, List.not_mem_nil, or_false] at hk
    cases st with
    | fin => (rcases hk with rfl | rfl | rfl | rfl | rfl | rfl | rfl | rfl; (exact T_fin_97 w x io pb fs q e tok buf p); (exact T_fin_98 w x io pb fs q e tok buf p); (exact T_fin_32 w x io pb fs q e tok buf p); (exact T_fin_9 w x io pb fs q e tok buf p); (exact T_fin_39 w x io pb fs q e tok buf p); (exact T_fin_34 w x io pb fs q e tok buf p); (exact T_fin_92 w x io pb fs q e tok buf p); (exact T_fin_35 w x io pb fs q e tok buf p))
    | sp => (rcases hk with rfl | rfl | rfl | rfl | rfl | rfl | rfl | rfl; (exact T_sp_97 w x io pb fs q e tok buf p); (exact T_sp_98 w x io pb fs q e tok buf p); (exact T_sp_32 w x io pb fs q e tok buf p); (exact T_sp_9 w x io pb fs q e tok buf p); (exact T_sp_39 w x io pb fs q e tok buf p); (exact T_sp_34 w x io pb fs q e tok buf p); (exact T_sp_92 w x io pb fs q e tok buf p); (exact T_sp_35 w x io pb fs q e tok buf p))
    | a => (rcases hk with rfl | rfl | rfl | rfl | rfl | rfl | rfl | rfl; (exact T_a_97 w x io pb fs q e tok buf p); (exact T_a_98 w x io pb fs q e tok buf p); (exact T_a_32 w x io pb fs q e tok buf p); (exact T_a_9 w x io pb fs q e tok buf p); (exact T_a_39 w x io pb fs q e tok buf p); (exact T_a_34 w x io pb fs q e tok buf p); (exact T_a_92 w x io pb fs q e tok buf p); (exact T_a_35 w x io pb fs q e tok buf p))
    | q k' =>
      rcases hs with rfl | rfl
      · (rcases hk with rfl | rfl | rfl | rfl | rfl | rfl | rfl | rfl; (exact T_q39_97 w x io pb fs q e tok buf p); (exact T_q39_98 w x io pb fs q e tok buf p); (exact T_q39_32 w x io pb fs q e tok buf p); (exact T_q39_9 w x io pb fs q e tok buf p); (exact T_q39_39 w x io pb fs q e tok buf p); (exact T_q39_34 w x io pb fs q e tok buf p); (exact T_q39_92 w x io pb fs q e tok buf p); (exact T_q39_35 w x io pb fs q e tok buf p))
      · (rcases hk with rfl | rfl | rfl | rfl | rfl | rfl | rfl | rfl; (exact T_q34_97 w x io pb fs q e tok buf p); (exact T_q34_98 w x io pb fs q e tok buf p); (exact T_q34_32 w x io pb fs q e tok buf p); (exact T_q34_9 w x io pb fs q e tok buf p); (exact T_q34_39 w x io pb fs q e tok buf p); (exact T_q34_34 w x io pb fs q e tok buf p); (exact T_q34_92 w x io pb fs q e tok buf p); (exact T_q34_35 w x io pb fs q e tok buf p))
    | esc =>
      rcases hs with rfl | rfl
      · (rcases hk with rfl | rfl | rfl | rfl | rfl | rfl | rfl | rfl; (exact T_esc97_97 w x io pb fs q tok buf p); (exact T_esc97_98 w x io pb fs q tok buf p); (exact T_esc97_32 w x io pb fs q tok buf p); (exact T_esc97_9 w x io pb fs q tok buf p); (exact T_esc97_39 w x io pb fs q tok buf p); (exact T_esc97_34 w x io pb fs q tok buf p); (exact T_esc97_92 w x io pb fs q tok buf p); (exact T_esc97_35 w x io pb fs q tok buf p))
      · (rcases hk with rfl | rfl | rfl | rfl | rfl | rfl | rfl | rfl; (exact T_esc34_97 w x io pb fs q tok buf p); (exact T_esc34_98 w x io pb fs q tok buf p); (exact T_esc34_32 w x io pb fs q tok buf p); (exact T_esc34_9 w x io pb fs q tok buf p); (exact T_esc34_39 w x io pb fs q tok buf p); (exact T_esc34_34 w x io pb fs q tok buf p); (exact T_esc34_92 w x io pb fs q tok buf p); (exact T_esc34_35 w x io pb fs q tok buf p))
end
end Mine
end -- D4
section -- D5
set_option maxRecDepth 100000
namespace Mine

theorem wp_while {w : World} {A : Around} {env : Env} {E : Value → Shared → Prop} {s : Shared} {Q : Flow → Shared → Prop} {test : Expr} {body : List Stmt} {pos : Pos} (hE : PassesOwn (model PG w) A env E) (I : Nat → Shared → Prop)
    (turn : ∀ n s, I n s → wpAny (model PG w) A (isTrue test env (eval test env)) (fun b s₂ => if b then wpAny (model PG w) A (execs body env) (fun f s₃ => match f with
      | .next | .cont => ∃ m, m < n ∧ I m s₃
      | .brk => Q .next s₃
      | .ret v => Q (.ret v) s₃) E s₂ else Q .next s₂) E s) (n : Nat) (h : I n s) : wpAny (model PG w) A (exec (.While test body [] pos) env) Q E s := by
  refine wpAny_While (codeAny_whileLoop I (fun n s hI => ?_) n h)
  refine wpAny_passesOwn hE (wpAny_mono (turn n s hI) (fun b s₂ h₂ => ?_) fun _ _ x => x)
  cases b with
  | true => exact wpAny_passesOwn hE h₂
  | false => exact wpAny_execs_nil h₂

/-- what the token's reading comes to: quoted, the token, the state, what is left; none: refused -/
noncomputable def rtk : List Nat → LS → Bool → Nat → List Nat → Option (Bool × List Nat × LS × List Nat)
  | [], st, q, e, tok => match turn st q e tok none with
    | .brk st' q' tok' => some (q', tok', st', [])
    | _ => none
  | c :: r, st, q, e, tok => match turn st q e tok (some c) with
    | .cont st' q' e' tok' => rtk r st' q' e' tok'
    | .brk st' q' tok' => some (q', tok', st', r)
    | .rz => none
noncomputable def resMV (q : Bool) (tok : List Nat) : MV := if !q && tok.isEmpty then .none else .str tok

theorem turn_ok {st : LS} {q : Bool} {e : Nat} {tok : List Nat} {c : Nat} (hs : lsOk st e) {st' : LS} {q' : Bool} {e' : Nat} {tok' : List Nat} (h : turn st q e tok (some c) = .cont st' q' e' tok') : lsOk st' e' ∧ tok'.length ≤ tok.length + 2 := by
  unfold turn at h
  cases st with
  | fin => cases h
  | sp =>
    simp only at h
    split at h
    · split at h
      · cases h
      · cases h; exact ⟨trivial, by omega⟩
    · split at h
      · cases h; exact ⟨.inl rfl, by omega⟩
      · split at h
        · rename_i q3
          cases h
          refine ⟨?_, by omega⟩
          simpa [lsOk] using q3
        · cases h; exact ⟨trivial, by simp⟩
  | a =>
    simp only at h
    split at h
    · split at h
      · cases h
      · cases h; exact ⟨trivial, by omega⟩
    · split at h
      · rename_i q3
        cases h
        refine ⟨?_, by omega⟩
        simpa [lsOk] using q3
      · split at h
        · cases h; exact ⟨.inl rfl, by omega⟩
        · cases h; exact ⟨trivial, by simp⟩
  | q k =>
    simp only at h
    split at h
    · cases h; exact ⟨trivial, by omega⟩
    · split at h
      · cases h; exact ⟨.inr rfl, by omega⟩
      · cases h; exact ⟨hs, by simp⟩
  | esc =>
    simp only at h
    cases h
    constructor
    · split
      · exact .inr rfl
      · trivial
    · split <;> simp
theorem turn_some {st : LS} {q : Bool} {e : Nat} {tok : List Nat} {c : Nat} : turn st q e tok (some c) ≠ .rz := by
  unfold turn
  cases st <;> simp only <;> (repeat' split) <;> intro h <;> cases h
theorem turn_none {st : LS} {q : Bool} {e : Nat} {tok : List Nat} {st' : LS} {q' : Bool} {e' : Nat} {tok' : List Nat} : turn st q e tok none ≠ .cont st' q' e' tok' := by
  unfold turn
  cases st <;> simp

theorem RF.forget {ε : Type} {s₀ s : Shared} {g : Heap} {env : Env} {L : Addr} {Led : ε → (Str → Option Value) → List (Addr × Obj) → Prop} {loc loc' : Loc} {x : ε} (h : RF s₀ g env L Led loc x s) (k : ∀ y v, loc'.lookup y = some v → loc.lookup y = some v) : RF s₀ g env L Led loc' x s := by
  obtain ⟨h1, m, own, F, N, l, d⟩ := h
  exact ⟨h1, m, own, F, N, fun y mv hy => l y mv (k y mv hy), d⟩
theorem lookup_take {y : Str} {v : MV} : ∀ (k : Nat) (l : Loc), (l.take k).lookup y = some v → l.lookup y = some v
  | 0, _, h => by simp at h
  | _ + 1, [], h => h
  | k + 1, (z, u) :: r, h => by
    simp only [List.take_succ_cons, List.lookup_cons] at h ⊢
    cases q : (y == z)
    · rw [q] at h; exact lookup_take k r h
    · rw [q] at h; exact h

/-- the stack as a raise finds it -/
structure Stk (A : Around) (outer : List Env) (bs h : Heap) : Prop where
  hd : A.handled = none
  fr : A.frames = some outer
  st : bs.StaysIn h
  ff : h.FunFrames bs outer
noncomputable def FlyX (bs : Heap) (outer : List Env) (e : Addr) (cls : Value) (fp : List Addr) (h h' : Heap) : Prop :=
  Heap.Flying bs outer e cls h' ∧ ∀ b o, h.get? b = some o → b ∉ fp → (∀ vs, o.data ≠ .fields vs) → ∃ sl, h'.get? b = some { o with slots := sl }

noncomputable abbrev loc3 (x : Addr) (q : Bool) (e : Nat) : Loc := [(selfN, .val (.ref x)), (sN "quoted", .bool q), (sN "escapedstate", .str [e])]
end Mine
end -- D5
section -- D6
set_option maxRecDepth 100000
namespace Mine

noncomputable def isWh : Stmt → Bool
  | .While _ _ [] _ => true
  | _ => false
theorem xwhAt {w : World} {A : Around} {env : Env} {E : Value → Shared → Prop} {s : Shared} {Q : Flow → Shared → Prop} {sts : List Stmt} (k : Nat) (hk : Nat.blt k sts.length = true) (hw : isWh (stAt sts k) = true) (hE : PassesOwn (model PG w) A env E) (I : Nat → Shared → Prop)
    (turn : ∀ n s, I n s → wpAny (model PG w) A (isTrue (whT (stAt sts k)) env (eval (whT (stAt sts k)) env)) (fun b s₂ => if b then wpAny (model PG w) A (execs (whB (stAt sts k)) env) (fun f s₃ => match f with
      | .next | .cont => ∃ m, m < n ∧ I m s₃
      | .brk => wpAny (model PG w) A (execs (sts.drop (k + 1)) env) Q E s₃
      | .ret v => Q (.ret v) s₃) E s₂ else wpAny (model PG w) A (execs (sts.drop (k + 1)) env) Q E s₂) E s) (n : Nat) (h : I n s) : wpAny (model PG w) A (execs (sts.drop k) env) Q E s := by
  have hk' : k < sts.length := Nat.le_of_ble_eq_true hk
  have e : sts.drop k = stAt sts k :: sts.drop (k + 1) := by
    rw [List.drop_eq_getElem_cons hk']
    unfold stAt
    rw [List.getElem?_eq_getElem hk']; rfl
  rw [e]
  generalize stAt sts k = st at *
  cases st <;> first | cases hw | skip
  rename_i t body orelse pos
  cases orelse with
  | cons _ _ => cases hw
  | nil =>
    refine wpAny_execs_cons (wp_while hE I (fun n s hI => wpAny_mono (turn n s hI) (fun b s₂ h₂ => ?_) fun _ _ x => x) n h)
    cases b with
    | false => exact h₂
    | true =>
      refine wpAny_mono h₂ (fun f s₃ h₃ => ?_) fun _ _ x => x
      cases f <;> exact h₃

theorem frames_on {h h' base : Heap} : ∀ {l : List Env}, (∀ b o, h.get? b = some o → b ∈ l.filterMap (·.frame) → ∃ o', h'.get? b = some o' ∧ o'.data = o.data) → h.FunFrames base l → h'.FunFrames base l
  | [], _, _ => trivial
  | env :: rest, k, ⟨hk, ⟨L, o, hf, hn, ho, hd⟩, hr⟩ => by
    obtain ⟨o', ho', hd'⟩ := k L o ho (by rw [List.filterMap_cons, hf]; exact .head _)
    refine ⟨hk, ⟨L, o', hf, hn, ho', fun vs => hd' ▸ hd vs⟩, frames_on (fun b o e m => k b o e ?_) hr⟩
    rw [List.filterMap_cons, hf]
    exact .tail _ m

theorem gF_VE (w : World) : gF w fTok.scope (sN "ValueError") = some (.type "ValueError") := by kernel_rfl
theorem raise_c {w : World} {mg mb : Str → Option Value} {A : Around} {s₀ s : Shared} {R : Result → Shared → Prop} {fp : List Addr} {L f : Addr} {fd : FuncData} {m : Str → Option Value} {outer : List Env} {bs : Heap} {stm : Stmt} (Bg : Base w mg mb (hideAll s₀.heap fp)) (hk : fd.scope.kind = .function)
    (hv : gF w fd.scope (sN "ValueError") = some (.type "ValueError")) (F : Fr (hideAll s₀.heap fp) L s.heap m) (sr : SameRest s₀ s) (hL : s₀.heap.get? L = none) (hrz : rzOk stm = true) (sk : Stk A outer bs s₀.heap) (hfp : ∀ b ∈ fp, bs.get? b = none ∧ b ∉ outer.filterMap (·.frame))
    (post : ∀ e s', SameRest s₀ s' → FlyX bs outer e (.type "ValueError") fp s₀.heap s'.heap → R (.error (.ref e)) s') :
    wpAny (model PG w) (A.deeper (envAt fd L f)) (exec stm (envAt fd L f)) (fun _ _ => False) (fun e s' => wpAny (model PG w) (A.deeper (envAt fd L f)) (leaving (envAt fd L f) e) (fun _ s'' => R (.error e) s'') (fun e' s'' => R (.error e') s'') s') s := by
  obtain ⟨np, c, k, cp, cpos, pos, rfl⟩ := rzOk_eq hrz
  · refine wpAny_Raise_call PySem.F.excCall_ValueError PySem.F.excRaise_ValueError sk.hd rfl (gF_name Bg F hk hv ⟨rfl, ?_⟩)
    refine Calls.evalArgs_plain (wpAny_items_cons (wpAny_Constant_str (wpAny_items_nil ⟨rfl, (by show 1 ≤ sizeLine; decide), fun h' e hm => ?_⟩)) rfl)
    obtain ⟨t, he, _, _⟩ := hm.there
    have kp : ∀ b o, s₀.heap.get? b = some o → b ∉ fp → h'.get? b = some o := fun b o e hb => hm.keeps b o (hide_keeps F e hb)
    have kb : bs.StaysIn h' := fun b o e => kp b o (sk.st b o e) fun q => by rw [(hfp b q).1] at e; cases e
    have hen : bs.get? e = none := by
      cases q : bs.get? e with
      | none => rfl
      | some o => have := hide_keeps F (sk.st e o q) fun q' => by rw [(hfp e q').1] at q; cases q
                  rw [hm.new] at this; cases this
    have hbL : bs.get? L = none := by
      cases q : bs.get? L with
      | none => rfl
      | some o => have := sk.st L o q; rw [hL] at this; cases this
    have hl : h'.FunFrames bs (envAt fd L f :: outer) := .cons (by show fd.scope.kind ≠ .module; rw [hk]; decide) rfl (F.ns.keeps hm.keeps) hbL (frames_on (fun b o e hb => ⟨o, kp b o e fun q => (hfp b q).2 hb, rfl⟩) sk.ff)
    refine wpAny_leaving_first (Around.frames_deeper sk.fr) hl rfl he kb hen rfl rfl fun h'' hleft => ?_
    obtain ⟨l1, ⟨_, _, l2⟩, l3, l4⟩ := hleft
    refine post e _ (sr.put _ _) ⟨⟨l1, hen, l2, l3⟩, fun b o e' hb hnf => l4 b o (kp b o e' hb) hnf⟩
end Mine
end -- D6
section -- D7
set_option maxRecDepth 100000
namespace Mine

section
variable {w : World} {mg mb : Str → Option Value} {b₀ : Heap} {A : Around} {s : Shared} {R : Result → Shared → Prop} {x d io dio pb fs : Addr} {es es2 : List DictEntry} {n n2 : Nat} {buf : List Nat} {p : Nat} {st : LS}

theorem tail_run (w : World) (x io pb fs : Addr) (q : Bool) (e : Nat) (c : Option Nat) (st : LS) (tok buf : List Nat) (p : Nat) :
    pexec (tokFace w x io pb fs) 40 ((bodyOf fTok).drop 3) (locT x q e c) ⟨lsMV st, tok, buf, p⟩ = some (.ret (resMV q tok), locT x q e c ++ [(sN "result", resMV q tok)], ⟨lsMV st, [], buf, p⟩, []) := by
  cases tok with
  | nil => cases q <;> kernel_rfl
  | cons t ts => cases q <;> kernel_rfl

theorem rtk_cons {c : Nat} {r : List Nat} {st : LS} {q : Bool} {e : Nat} {tok : List Nat} : rtk (c :: r) st q e tok = match turn st q e tok (some c) with
    | .cont st' q' e' tok' => rtk r st' q' e' tok'
    | .brk st' q' tok' => some (q', tok', st', r)
    | .rz => none := rfl
theorem rtk_nil {st : LS} {q : Bool} {e : Nat} {tok : List Nat} : rtk [] st q e tok = match turn st q e tok none with
    | .brk st' q' tok' => some (q', tok', st', [])
    | _ => none := rfl
theorem drop_cons {buf : List Nat} {p : Nat} (h : p < buf.length) : buf.drop p = buf[p] :: buf.drop (p + 1) := List.drop_eq_getElem_cons h
theorem cut_one {buf : List Nat} {p : Nat} (h : p < buf.length) : pcut buf (some p) (some (p + 1)) = [buf[p]] := by
  unfold pcut
  simp only [Option.getD_some]
  rw [List.take_add_one, List.getElem?_eq_getElem h, List.drop_append_of_le_length (by rw [List.length_take]; omega), List.drop_eq_nil_of_le (by rw [List.length_take]; omega)]
  rfl
theorem cut_none {buf : List Nat} {p : Nat} (h : ¬ p < buf.length) : pcut buf (some p) (some (p + 1)) = [] := by
  unfold pcut
  exact List.drop_eq_nil_of_le (by rw [List.length_take]; simp only [Option.getD_some]; omega)

theorem tok_c (Bs : Base w mg mb b₀) (sy : b₀.StaysIn s.heap) (hroom : A.depth < 870) (hx : s.heap.get? x = some (instObj 740 d)) (hd : s.heap.get? d = some (dictOf es n)) (hd0 : b₀.get? d = none) (hr : AttRel w (lexAtt io pb fs (lsMV st) []) es)
    (hio : s.heap.get? io = some (instObj 605 dio)) (hdio : s.heap.get? dio = some (dictOf es2 n2)) (hdio0 : b₀.get? dio = none) (hr2 : AttRel w (ioAtt buf p) es2) (hne : dio ≠ d) (hp : p ≤ buf.length) (hlen : buf.length ≤ 100000) (hal : ∀ c ∈ buf, c ∈ alpha) (hst : lsOk st 32)
    (post : ∀ q tok st' rem, rtk (buf.drop p) st false 32 [] = some (q, tok, st', rem) → ∀ v s' p', Sim v (resMV q tok) → p' ≤ buf.length → buf.drop p' = rem → OutV (lexView io pb fs) w s s' d [dio] ⟨lsMV st', [], buf, p'⟩ (LedIO w dio) → R (.ok (.ret v)) s')
    (sk : rtk (buf.drop p) st false 32 [] = none → ∃ outer bs, Stk A outer bs s.heap ∧ (∀ b ∈ [d, dio], bs.get? b = none ∧ b ∉ outer.filterMap (·.frame)) ∧ ∀ e s', SameRest s s' → FlyX bs outer e (.type "ValueError") [d, dio] s.heap s'.heap → R (.error (.ref e)) s') :
    codeAny (model PG w) A (.call (.ref 708) ⟨[.ref x], []⟩) R s := by
  have hrl : recursionLimit = 1000 := rfl
  have dp : ∀ L, (A.deeper (envAt fTok L 708)).depth < 880 := fun L => by show A.depth + 1 < 880; omega
  have hxd : x ≠ d := fun e => by rw [e, hd] at hx; cases hx
  have hxdi : x ≠ dio := fun e => by rw [e, hdio] at hx; cases hx
  have hid : io ≠ d := fun e => by rw [e, hd] at hio; cases hio
  have hidi : io ≠ dio := fun e => by rw [e, hdio] at hio; cases hio
  refine enterView (lexView io pb fs) (e₀ := ⟨lsMV st, [], buf, p⟩) (Led2 := LedIO w dio) [] asgT lexOks [(dio, dictOf es2 n2)] tokE noS noC Bs sy (ff_tok w) (by omega) .nil (by kernel_rfl) (by kernel_rfl) (by kernel_rfl) (lexOks_ok w) (lexCls_ok w) hx hd hd0 hr (Nat.le_of_ble_eq_true rfl) LedIO_set
    (fun q hq => by cases hq with | head => exact ⟨hdio, hdio0⟩ | tail _ h => exact nomatch h) (fun q hq => by cases hq with | head => exact hne | tail _ h => exact nomatch h) (by simpa using hxdi) ⟨es2, n2, rfl, hr2, hlen⟩
    (fun L Bg stg => tokHooks Bs (dp L) L _ Bg stg (hideAll_get _ hx (by simp [hxd, hxdi])) (hideAll_get _ hio (by simp [hid, hidi])) hd0 hdio0) fun L s₁ ok hR hL hL0 => ?_
  have hkf : fTok.scope.kind = .function := by kernel_rfl
  have Bg : Base w mg mb (hideAll s.heap [d, dio]) := Bs.keeps fun b o e => hideAll_get _ (sy b o e) fun q => by
    simp only [List.mem_cons, List.not_mem_nil, or_false] at q
    rcases q with rfl | rfl
    · rw [hd0] at e; cases e
    · rw [hdio0] at e; cases e
  refine xseg (ok _) 20 (loc3 x false 32) ⟨lsMV st, [], buf, p⟩ [] 2 (by kernel_rfl) (fun _ h => nomatch h) hR fun s₂ hR₂ => ?_
  refine xwhAt 2 (by kernel_rfl) (by kernel_rfl) PassesOwn.leaving (fun k s' => ∃ st' q e tok p', k = buf.length - p' ∧ p' ≤ buf.length ∧ lsOk st' e ∧ tok.length ≤ 2 * p' ∧ rtk (buf.drop p') st' q e tok = rtk (buf.drop p) st false 32 [] ∧
      RF s (hideAll s.heap [d, dio]) (envAt fTok L 708) L (LedV (lexView io pb fs) w x d (LedIO w dio)) (loc3 x q e) ⟨lsMV st', tok, buf, p'⟩ s') ?_ (buf.length - p) ⟨st, false, 32, [], p, rfl, hp, hst, by simp, rfl, hR₂⟩
  rintro k s' ⟨st', q, e, tok, p', rfl, hp', hst', htl, hrt, hR'⟩
  refine (psound (ok _) 5).2.2.1 _ _ _ true ⟨lsMV st', tok, buf, p'⟩ [] (by kernel_rfl) (fun _ h => nomatch h) _ _ hR' fun s₃ hR₃ => ?_
  have szl : ∀ {o : List Nat}, (∀ k ∈ o, k ≤ tok.length + 3) → ∀ k ∈ o, k ≤ sizeLine := fun h k hk => by
    have := h k hk
    rw [sizeLine_eq]; omega
  show wpAny _ _ (execs rtLoop _) _ _ _
  refine xseg (ok _) 30 (loc3 x q e ++ [(sN "nextchar", .str (pcut buf (some p') (some (p' + 1))))]) ⟨lsMV st', tok, buf, if p' < buf.length then p' + 1 else p'⟩ [] 1 (by kernel_rfl) (fun _ h => nomatch h) hR₃ fun s₄ hR₄ => ?_
  show wpAny _ _ (execs rtTail _) _ _ _
  have fin : ∀ (q' : Bool) (e' : Nat) (c : Option Nat) (st'' : LS) (tok' : List Nat) (p'' : Nat) (rem : List Nat) s₅, p'' ≤ buf.length → buf.drop p'' = rem → rtk (buf.drop p) st false 32 [] = some (q', tok', st'', rem) →
      RF s (hideAll s.heap [d, dio]) (envAt fTok L 708) L (LedV (lexView io pb fs) w x d (LedIO w dio)) (locT x q' e' c) ⟨lsMV st'', tok', buf, p''⟩ s₅ →
      wpAny (model PG w) (A.deeper (envAt fTok L 708)) (execs ((bodyOf fTok).drop 3) (envAt fTok L 708)) (fun fl s' => R (.ok (.ret (flowV fl))) s')
        (fun e s' => wpAny (model PG w) (A.deeper (envAt fTok L 708)) (leaving (envAt fTok L 708) e) (fun _ s'' => R (.error e) s'') (fun e' s'' => R (.error e') s'') s') s₅ := by
    intro q' e' c st'' tok' p'' rem s₅ hp'' hrem hres hR₅
    refine xrun (ok _) 40 (.ret (resMV q' tok')) _ _ [] (tail_run w x io pb fs q' e' c st'' tok' buf p'') (fun _ h => nomatch h) hR₅ fun s₆ hR₆ fl hfl => ?_
    cases fl <;> first | exact hfl.elim | exact post _ _ _ _ hres _ _ _ hfl hp'' hrem (hR₆.outV rfl)
  by_cases hlt : p' < buf.length
  · rw [if_pos hlt, cut_one hlt] at hR₄
    have hR₄ : RF s (hideAll s.heap [d, dio]) (envAt fTok L 708) L (LedV (lexView io pb fs) w x d (LedIO w dio)) (locT x q e (some buf[p'])) ⟨lsMV st', tok, buf, p' + 1⟩ s₄ := hR₄
    have T := T_all w x io pb fs q e tok buf (p' + 1) st' (some buf[p']) hst' fun k hk => by cases hk; exact hal _ (List.getElem_mem hlt)
    rw [drop_cons hlt, rtk_cons] at hrt
    unfold TurnOk at T
    cases ht : turn st' q e tok (some buf[p']) with
    | cont st'' q' e' tok' =>
      rw [ht] at T hrt
      obtain ⟨fl, o, hfl, hx', ho⟩ := T
      obtain ⟨k1, k2⟩ := turn_ok hst' ht
      refine xrun (ok _) 60 fl _ _ o hx' (szl ho) hR₄ fun s₅ hR₅ => ?_
      have key : ∃ m, m < buf.length - p' ∧ ∃ st' q e tok p', m = buf.length - p' ∧ p' ≤ buf.length ∧ lsOk st' e ∧ tok.length ≤ 2 * p' ∧ rtk (buf.drop p') st' q e tok = rtk (buf.drop p) st false 32 [] ∧
          RF s (hideAll s.heap [d, dio]) (envAt fTok L 708) L (LedV (lexView io pb fs) w x d (LedIO w dio)) (loc3 x q e) ⟨lsMV st', tok, buf, p'⟩ s₅ :=
        ⟨buf.length - (p' + 1), by omega, st'', q', e', tok', p' + 1, rfl, by omega, k1, by omega, hrt, hR₅.forget fun y v h => lookup_take 3 (locT x q' e' (some buf[p'])) h⟩
      rcases hfl with rfl | rfl
      · intro f hf; cases f <;> first | exact hf.elim | exact key
      · intro f hf; cases f <;> first | exact hf.elim | exact key
    | brk st'' q' tok' =>
      rw [ht] at T hrt
      obtain ⟨e', o, hx', ho⟩ := T
      refine xrun (ok _) 60 .brk _ _ o hx' (szl ho) hR₄ fun s₅ hR₅ => ?_
      intro f hf
      cases f <;> first | exact hf.elim | exact fin _ _ _ _ _ (p' + 1) _ _ (by omega) rfl hrt.symm hR₅
    | rz => exact absurd ht turn_some
  · rw [if_neg hlt, cut_none hlt] at hR₄
    have hR₄ : RF s (hideAll s.heap [d, dio]) (envAt fTok L 708) L (LedV (lexView io pb fs) w x d (LedIO w dio)) (locT x q e none) ⟨lsMV st', tok, buf, p'⟩ s₄ := hR₄
    have T := T_all w x io pb fs q e tok buf p' st' none hst' fun k hk => by cases hk
    have hdn : buf.drop p' = [] := List.drop_eq_nil_of_le (by omega)
    rw [hdn, rtk_nil] at hrt
    unfold TurnOk at T
    cases ht : turn st' q e tok none with
    | cont st'' q' e' tok' => exact absurd ht turn_none
    | brk st'' q' tok' =>
      rw [ht] at T hrt
      obtain ⟨e', o, hx', ho⟩ := T
      refine xrun (ok _) 60 .brk _ _ o hx' (szl ho) hR₄ fun s₅ hR₅ => ?_
      intro f hf
      cases f <;> first | exact hf.elim | exact fin _ _ _ _ _ p' _ _ hp' hdn hrt.symm hR₅
    | rz =>
      rw [ht] at T hrt
      obtain ⟨q', o, hx', ho, hz⟩ := T
      refine xrun (ok _) 60 _ _ _ o hx' (szl ho) hR₄ fun s₅ hR₅ => ?_
      obtain ⟨outer, bs, sk1, sk2, sk3⟩ := sk hrt.symm
      obtain ⟨h1, m, own, F, N, l, hm⟩ := hR₅
      exact raise_c (fp := [d, dio]) Bg hkf (gF_VE w) F h1 hL hz sk1 sk2 sk3
end
end Mine
end -- D7
section -- E1
open PySem.Builtin
set_option maxRecDepth 100000
namespace Mine

noncomputable abbrev deqObj (k : Int) : Obj := { cls := .type "collections.deque", data := .fields #[.none, rawInt k] }
theorem noBool_deq : typeLookup (.type "collections.deque") "__bool__" = pure none := by rw [typeLookup_type, builtinLookup_eq_fast]; kernel_rfl
theorem slot_deq_len : Slot "collections.deque" "__len__" "collections.deque.__len__" :=
  .of (owner := "collections.deque") (n := "__len__") (by rw [typeLookup_type, builtinLookup_eq_fast]; kernel_rfl) (by decide +kernel) (by decide +kernel) (by decide +kernel)
    (by first | exact .inl (by decide +kernel) | exact .inr (by decide +kernel)) (by rw [isSubtype_type]; kernel_rfl)
theorem entry_deq_len : entryFor table "collections.deque.__len__" = some Builtin.«collections.deque.__len__» := entryFor_of_tree (by kernel_rfl)
theorem args_deq_len (a : Value) : argsOk "collections.deque.__len__" ⟨[a], []⟩ := by unfold argsOk; kernel_rfl

section
variable {prog : Program} {w : World} {A : Around} {E : Value → Shared → Prop} {s : Shared} {a : Addr} {k : Int}
theorem deq_type (h : s.heap.get? a = some (deqObj k)) : s.TypeIs (.ref a) "collections.deque" := ⟨_, h, rfl⟩
theorem deq_len_body {Q : Value → Shared → Prop} (ha : s.heap.get? a = some (deqObj k)) (h : Q (.int 0 (s.toks + 1)) { s with toks := s.toks + 1 + 1 }) : wpAny (model prog w) A (Builtin.«len» ⟨[.ref a], []⟩) (fun fin s' => ∃ r, fin = .done (.ret r) ∧ Q r s') E s := by
  unfold Builtin.«len»
  refine wpAny_bind (m := oneArg "len" _) (wpAny_pure ?_)
  refine wpAny_bind (m := callSpecial? (.ref a) (Str.ofString "__len__")) (wpAny_callSpecial?_slot (name := Str.ofString "__len__") (deq_type ha) slot_deq_len
    (wpAny_call_entry slot_deq_len (deq_type ha) entry_deq_len ?_ (args_deq_len _)))
  unfold Builtin.«collections.deque.__len__» Deque.size
  refine wpAny_bind (m := slotArgs "__len__" 0 _) (wpAny_pure ?_)
  refine wpAny_bind (wpAny_bind (wpAny_fieldsOf ha rfl (wpAny_pure ?_)))
  refine wpAny_bind (wpAny_mkInt (wpAny_pure ⟨_, rfl, ?_⟩))
  refine wpAny_bind (wpAny_holding (wpAny_pure ?_))
  refine wpAny_bind (wpAny_letGo ?_)
  exact wpAny_bind (wpAny_mkInt (wpAny_pure ⟨_, rfl, h⟩))
theorem deq_truthy {Q : Bool → Shared → Prop} (ha : s.heap.get? a = some (deqObj k)) (h : Q false { s with toks := s.toks + 1 + 1 }) : wpAny (model prog w) A (truthy (.ref a)) Q E s := by
  have key : wpAny (model prog w) A (runValue (.builtin "len" ⟨[.ref a], []⟩)) (fun r s' => r = .int 0 (s.toks + 1) ∧ Q false s') E s := by
    refine wpAny_runValue (codeAny_builtin entry_len ?_)
    rw [Around.under_plainId plain_len _]
    exact wpAny_mono (deq_len_body (Q := fun r s' => r = .int 0 (s.toks + 1) ∧ Q false s') ha ⟨rfl, h⟩) (fun fin s' h' => by obtain ⟨r, rfl, hq⟩ := h'; exact hq) fun _ _ e => e
  unfold truthy
  first
    | refine wpAny_bind (wpAny_callSpecial?_none (name := Str.ofString "__bool__") (deq_type ha) noBool_deq ?_)
    | refine wpAny_bind (wpAny_pure (wpAny_bind (wpAny_callSpecial?_none (name := Str.ofString "__bool__") (deq_type ha) noBool_deq ?_)))
  first
    | refine wpAny_bind (wpAny_specialOf (name := Str.ofString "__len__") (deq_type ha) slot_deq_len.lookup ?_)
    | refine wpAny_bind (wpAny_pure (wpAny_bind (wpAny_specialOf (name := Str.ofString "__len__") (deq_type ha) slot_deq_len.lookup ?_)))
  first
    | exact wpAny_bind (wpAny_mono key (fun r s' h' => by obtain ⟨rfl, hq⟩ := h'; exact wpAny_pure hq) fun _ _ e => e)
    | exact wpAny_bind (wpAny_pure (wpAny_bind (wpAny_mono key (fun r s' h' => by obtain ⟨rfl, hq⟩ := h'; exact wpAny_pure hq) fun _ _ e => e)))
end
end Mine
end -- E1
section -- E2
set_option maxRecDepth 100000
namespace Mine

theorem leave_fly {M : Model} {A : Around} {env : Env} {outer : List Env} {bs h : Heap} {e L : Addr} {cls : Value} {fp : List Addr} {s' : Shared} {Q : Unit → Shared → Prop} {E : Value → Shared → Prop} (hfr : A.frames = some (env :: outer)) (hf : env.frame = some L)
    (fx : FlyX bs (env :: outer) e cls fp h s'.heap) (hQ : ∀ h'', FlyX bs outer e cls fp h h'' → Q () { s' with heap := h'' }) : wpAny M A (leaving env (.ref e)) Q E s' := by
  obtain ⟨⟨f1, f2, f3, f4⟩, f5⟩ := fx
  refine wpAny_leaving_next hfr f3 hf f4 f1 f2 fun h'' hL => hQ h'' ?_
  obtain ⟨l1, ⟨_, _, l2⟩, l3, l4⟩ := hL
  refine ⟨⟨l1, f2, l2, l3⟩, fun b o e' hb hnf => ?_⟩
  obtain ⟨sl, q⟩ := f5 b o e' hb hnf
  obtain ⟨sl', q'⟩ := l4 b { o with slots := sl } q hnf
  exact ⟨sl', q'⟩

theorem RF.afterV {w : World} {io pb fs : Addr} {s₀ s s' : Shared} {g : Heap} {env : Env} {L x d dio : Addr} {loc : Loc} {e e' : LX} (h : RF s₀ g env L (LedV (lexView io pb fs) w x d (LedIO w dio)) loc e s) (o : OutV (lexView io pb fs) w s s' d [dio] e' (LedIO w dio)) :
    RF s₀ g env L (LedV (lexView io pb fs) w x d (LedIO w dio)) loc e' s' := by
  obtain ⟨h1, m, own, F, N, l, hm, es, n, rest, rfl, hr, hz, hd, es2, n2, rfl, hr2, hl2⟩ := h
  obtain ⟨o1, o2, es', n', rest', o3, o4, o5, es3, n3, rfl, o6, o7⟩ := o
  have D := N _ (.head _)
  have D2 := N _ (.tail _ (.head _))
  have hne : dio ≠ d := hd _ (.head _)
  refine ⟨h1.trans o1, m, [(d, dictOf es' n'), (dio, dictOf es3 n3)], frAfter F o2 (fun b hb => ?_), fun p hp => ?_, l, hm, es', n', [(dio, dictOf es3 n3)], rfl, o4, Nat.le_of_ble_eq_true rfl, ?_, es3, n3, rfl, o6, o7⟩
  · simp only [List.mem_cons, List.not_mem_nil, or_false] at hb
    rcases hb with rfl | rfl
    · exact D.2
    · exact D2.2
  · simp only [List.mem_cons, List.not_mem_nil, or_false] at hp
    rcases hp with rfl | rfl
    · exact ⟨o3, D.2⟩
    · exact ⟨o5 _ (.head _), D2.2⟩
  · intro p hp
    simp only [List.mem_cons, List.not_mem_nil, or_false] at hp
    subst hp
    exact hne

noncomputable def fGet : FuncData := fdAt 701
theorem ff_get (w : World) : FnFacts w 701 fGet := ⟨by kernel_rfl, by kernel_rfl⟩
theorem meth_tok (w : World) : methOk (KK w) 740 708 (sN "read_token") = true := by kernel_rfl
noncomputable def getT : Expr → Loc → LX → Option (Bool × LX) := fun e _ x => (asAttr e).bind fun q => cond (q.1 == selfN && (q.2 == sN "pushback" || q.2 == sN "filestack")) (some (false, x)) none
noncomputable def getFace (w : World) (x io pb fs : Addr) : Face LX := { viewFace (lexView io pb fs) w fGet.scope [sN "raw"] lexOks x noE noS noC with hookT := getT }

section
variable {w : World} {mg mb : Str → Option Value} {b₀ : Heap} {A : Around} {s : Shared} {R : Result → Shared → Prop} {x d io dio pb fs : Addr}
theorem getFaceOk {E : Value → Shared → Prop} {L : Addr} {g : Heap} {k1 k2 : Int} (hk : fGet.scope.kind = .function) (X : (KK w).In g) (hx : g.get? x = some (instObj 740 d)) (hpb : g.get? pb = some (deqObj k1)) (hfs : g.get? fs = some (deqObj k2))
    (ok : FaceOk (viewFace (lexView io pb fs) w fGet.scope [sN "raw"] lexOks x noE noS noC) PG w A (envAt fGet L 701) E (RF s g (envAt fGet L 701) L (LedV (lexView io pb fs) w x d (LedIO w dio)))) :
    FaceOk (getFace w x io pb fs) PG w A (envAt fGet L 701) E (RF s g (envAt fGet L 701) L (LedV (lexView io pb fs) w x d (LedIO w dio))) where
  name := ok.name
  load := ok.load
  store := ok.store
  toks := ok.toks
  push := ok.push
  sname := ok.sname
  get := ok.get
  set := ok.set
  hookE := ok.hookE
  hookS := ok.hookS
  gname := ok.gname
  keeper := ok.keeper
  call := ok.call
  hookT := fun {loc e s₁ ex b e' Q} hR h hQ => by
    have h : getT ex loc e = some (b, e') := h
    · refine bnd h fun q0 hat h => cnd h fun q h => ?_
      · cases (Option.some.inj h)
        obtain ⟨yp, ap, rfl⟩ := asAttr_eq hat
        obtain ⟨y, a⟩ := q0
        simp only [Bool.and_eq_true, Bool.or_eq_true, beq_iff_eq] at q
        obtain ⟨rfl, qa⟩ := q
        have hR' := hR
        obtain ⟨h1, m, own, F, N, l, hm, es, n, rest, rfl, hr, hz, hd, h2⟩ := hR
        rcases qa with rfl | rfl
        · refine wpAny_isTrue_value (Attribute_name (ld F hm (att_get F X N (F.keep _ _ hx) hr (by kernel_rfl) (mv := .val (.ref pb)) (by kernel_rfl) fun v hv => ?_) hk rfl rfl)) rfl
          cases hv
          exact deq_truthy (s := { s₁ with toks := s₁.toks + 1 }) (F.keep _ _ hpb) (hQ _ (hR'.toks _))
        · refine wpAny_isTrue_value (Attribute_name (ld F hm (att_get F X N (F.keep _ _ hx) hr (by kernel_rfl) (mv := .val (.ref fs)) (by kernel_rfl) fun v hv => ?_) hk rfl rfl)) rfl
          cases hv
          exact deq_truthy (s := { s₁ with toks := s₁.toks + 1 }) (F.keep _ _ hfs) (hQ _ (hR'.toks _))

theorem deq_ne {es : List DictEntry} {n : Nat} {k : Int} (h : some (dictOf es n) = some (deqObj k)) : False := by
  have := congrArg (Option.map Obj.data) h
  simp at this
theorem FlyX.from {bs h0 h h' : Heap} {outer : List Env} {e : Addr} {cls : Value} {fp : List Addr} (k : ∀ b o, h0.get? b = some o → b ∉ fp → h.get? b = some o) (f : FlyX bs outer e cls fp h h') : FlyX bs outer e cls fp h0 h' :=
  ⟨f.1, fun b o e' hb hnf => f.2 b o (k b o e' hb) hb hnf⟩
/-- the stack with one more frame -/
theorem Stk.push {A : Around} {outer : List Env} {bs h g h' : Heap} {fd : FuncData} {L f : Addr} {m : Str → Option Value} {fp : List Addr} (sk : Stk A outer bs h) (hk : fd.scope.kind = .function) (F : Fr g L h' m) (hL : h.get? L = none) (kp : ∀ b o, h.get? b = some o → b ∉ fp → h'.get? b = some o)
    (hfp : ∀ b ∈ fp, bs.get? b = none ∧ b ∉ outer.filterMap (·.frame)) : Stk (A.deeper (envAt fd L f)) (envAt fd L f :: outer) bs h' := by
  have hbL : bs.get? L = none := by
    cases q : bs.get? L with
    | none => rfl
    | some o => have := sk.st L o q; rw [hL] at this; cases this
  exact ⟨sk.hd, Around.frames_deeper sk.fr, fun b o e => kp b o (sk.st b o e) fun q => by (rw [(hfp b q).1] at e; cases e),
    .cons (by show fd.scope.kind ≠ .module; rw [hk]; decide) rfl F.ns hbL (frames_on (fun b o e hb => ⟨o, kp b o e fun q => (hfp b q).2 hb, rfl⟩) sk.ff)⟩
noncomputable def isAsgM (v nm : Str) (st : Stmt) : Bool := ((asAsg1 st).bind fun q => (asName q.1).bind fun y => (asMeth q.2).bind fun c => (asName c.o).bind fun z => cond (y == v && z == selfN && c.a == nm && c.args.isEmpty && c.line) (some ()) none).isSome
theorem isAsgM_eq {v nm : Str} {st : Stmt} (h : isAsgM v nm st = true) : ∃ yp zp ap p sp, st = .Assign [.Name v yp] (.Call (.Attribute (.Name selfN zp) nm ap) [] [] p) sp ∧ (ap.endLine == p.line) = true := by
  obtain ⟨u, h⟩ := Option.isSome_iff_exists.mp h
  refine bnd h fun q hq h => bnd h fun y hy h => bnd h fun c hc h => bnd h fun z hz h => cnd h fun c h => ?_
  obtain ⟨sp, rfl⟩ := asAsg1_eq hq
  obtain ⟨yp, e1⟩ := asName_eq hy
  obtain ⟨zp, e2⟩ := asName_eq hz
  simp only [Bool.and_eq_true, beq_iff_eq, List.isEmpty_iff] at c
  obtain ⟨⟨⟨⟨c1, c2⟩, c3⟩, c4⟩, c5⟩ := c
  rw [e1, asMeth_eq hc, e2, c1, c2, c3, c4]
  exact ⟨yp, zp, _, _, sp, rfl, c5⟩

theorem get_c {es es2 : List DictEntry} {n n2 : Nat} {buf : List Nat} {p : Nat} {st : LS} {k1 k2 : Int} (Bs : Base w mg mb b₀) (sy : b₀.StaysIn s.heap) (hroom : A.depth < 860) (hx : s.heap.get? x = some (instObj 740 d)) (hd : s.heap.get? d = some (dictOf es n)) (hd0 : b₀.get? d = none) (hr : AttRel w (lexAtt io pb fs (lsMV st) []) es)
    (hio : s.heap.get? io = some (instObj 605 dio)) (hdio : s.heap.get? dio = some (dictOf es2 n2)) (hdio0 : b₀.get? dio = none) (hr2 : AttRel w (ioAtt buf p) es2) (hne : dio ≠ d) (hpb : s.heap.get? pb = some (deqObj k1)) (hfs : s.heap.get? fs = some (deqObj k2))
    (hp : p ≤ buf.length) (hlen : buf.length ≤ 100000) (hal : ∀ c ∈ buf, c ∈ alpha) (hst : lsOk st 32)
    (post : ∀ q tok st' rem, rtk (buf.drop p) st false 32 [] = some (q, tok, st', rem) → ∀ v s' p', Sim v (resMV q tok) → p' ≤ buf.length → buf.drop p' = rem → OutV (lexView io pb fs) w s s' d [dio] ⟨lsMV st', [], buf, p'⟩ (LedIO w dio) → R (.ok (.ret v)) s')
    (sk : rtk (buf.drop p) st false 32 [] = none → ∃ outer bs, Stk A outer bs s.heap ∧ (∀ b ∈ [d, dio], bs.get? b = none ∧ b ∉ outer.filterMap (·.frame)) ∧ ∀ e s', SameRest s s' → FlyX bs outer e (.type "ValueError") [d, dio] s.heap s'.heap → R (.error (.ref e)) s') :
    codeAny (model PG w) A (.call (.ref 701) ⟨[.ref x], []⟩) R s := by
  have hrl : recursionLimit = 1000 := rfl
  have hxd : x ≠ d := fun e => by rw [e, hd] at hx; cases hx
  have hxdi : x ≠ dio := fun e => by rw [e, hdio] at hx; cases hx
  have hid : io ≠ d := fun e => by rw [e, hd] at hio; cases hio
  have hidi : io ≠ dio := fun e => by rw [e, hdio] at hio; cases hio
  have hpd : pb ≠ d := fun e => by rw [e, hd] at hpb; exact deq_ne hpb
  have hpdi : pb ≠ dio := fun e => by rw [e, hdio] at hpb; exact deq_ne hpb
  have hfd : fs ≠ d := fun e => by rw [e, hd] at hfs; exact deq_ne hfs
  have hfdi : fs ≠ dio := fun e => by rw [e, hdio] at hfs; exact deq_ne hfs
  refine enterView (lexView io pb fs) (e₀ := ⟨lsMV st, [], buf, p⟩) (Led2 := LedIO w dio) [] [sN "raw"] lexOks [(dio, dictOf es2 n2)] noE noS noC Bs sy (ff_get w) (by omega) .nil (by kernel_rfl) (by kernel_rfl) (by kernel_rfl) (lexOks_ok w) (lexCls_ok w) hx hd hd0 hr (Nat.le_of_ble_eq_true rfl) LedIO_set
    (fun q hq => by cases hq with | head => exact ⟨hdio, hdio0⟩ | tail _ h => exact nomatch h) (fun q hq => by cases hq with | head => exact hne | tail _ h => exact nomatch h) (by simpa using hxdi) ⟨es2, n2, rfl, hr2, hlen⟩
    (fun L Bg stg => noHooks) fun L s₁ ok' hR hL hL0 => ?_
  have hkf : fGet.scope.kind = .function := by kernel_rfl
  have syg : b₀.StaysIn (hideAll s.heap [d, dio]) := fun b o e => hideAll_get _ (sy b o e) fun q => by
    simp only [List.mem_cons, List.not_mem_nil, or_false] at q
    rcases q with rfl | rfl
    · rw [hd0] at e; cases e
    · rw [hdio0] at e; cases e
  have Bg : Base w mg mb (hideAll s.heap [d, dio]) := Bs.keeps syg
  have ok := fun E => getFaceOk (A := A.deeper (envAt fGet L 701)) (dio := dio) hkf Bg.X (hideAll_get _ hx (by simp [hxd, hxdi])) (hideAll_get _ hpb (by simp [hpd, hpdi])) (hideAll_get _ hfs (by simp [hfd, hfdi])) (ok' E)
  refine xseg (ok _) 20 [(selfN, .val (.ref x))] ⟨lsMV st, [], buf, p⟩ [] 1 (by kernel_rfl) (fun _ h => nomatch h) hR fun s₂ hR₂ => ?_
  have hb1 : (bodyOf fGet).drop 1 = stAt (bodyOf fGet) 1 :: (bodyOf fGet).drop 2 := by kernel_rfl
  have hasg : isAsgM (sN "raw") (sN "read_token") (stAt (bodyOf fGet) 1) = true := by kernel_rfl
  rw [hb1]
  generalize stAt (bodyOf fGet) 1 = st1 at hasg
  obtain ⟨yp, zp, ap, pp, ps, rfl, hline⟩ := isAsgM_eq hasg
  · have hR₂' := hR₂
    obtain ⟨h1, m, own, F, N, l, hm, es', n', rest, rfl, hr', hz, hdd, es3, n3, rfl, hr3, hl3⟩ := hR₂
    refine wpAny_execs_cons (wpAny_Assign_Name (wp_meth0 hline (fun Q' hq => ld F hm hq hkf rfl rfl) F Bg.X (F.keep _ _ (hideAll_get _ hx (by simp [hxd, hxdi]))) (N _ (.head _)).1 hr' (meth_tok w) (by kernel_rfl) ?_) rfl)
    refine tok_c (st := st) Bs (fun b o e => F.keep b o (syg b o e)) (by show A.depth + 1 < 870; omega) (F.keep _ _ (hideAll_get _ hx (by simp [hxd, hxdi]))) (N _ (.head _)).1 hd0 hr' (F.keep _ _ (hideAll_get _ hio (by simp [hid, hidi]))) (N _ (.tail _ (.head _))).1 hdio0 hr3 hne hp hlen hal hst ?_ ?_
    · intro q tok st' rem hres v s₃ p' hv hp' hrem ho
      have hR₃ := hR₂'.afterV ho
      refine (ok _).store (y := sN "raw") hR₃ (by kernel_rfl) hv fun s₄ hR₄ => ?_
      have fin : ∀ s₅ v', RF s (hideAll s.heap [d, dio]) (envAt fGet L 701) L (LedV (lexView io pb fs) w x d (LedIO w dio)) [(selfN, .val (.ref x)), (sN "raw", resMV q tok)] ⟨lsMV st', [], buf, p'⟩ s₅ → Sim v' (resMV q tok) → R (.ok (.ret v')) s₅ :=
        fun s₅ v' hR₅ hv' => post q tok st' rem hres v' s₅ p' hv' hp' hrem (hR₅.outV rfl)
      have hR₄ : RF s (hideAll s.heap [d, dio]) (envAt fGet L 701) L (LedV (lexView io pb fs) w x d (LedIO w dio)) [(selfN, .val (.ref x)), (sN "raw", resMV q tok)] ⟨lsMV st', [], buf, p'⟩ s₄ := hR₄
      by_cases hq : (!q && tok.isEmpty) = true
      · have hrv : resMV q tok = .none := if_pos hq
        rw [hrv] at hR₄ fin
        refine xseg (ok _) 20 [(selfN, .val (.ref x)), (sN "raw", .none)] ⟨lsMV st', [], buf, p'⟩ [] 1 (by kernel_rfl) (fun _ h => nomatch h) hR₄ fun s₅ hR₅ => ?_
        refine xwhAt (sts := (bodyOf fGet).drop 2) 1 (by kernel_rfl) (by kernel_rfl) PassesOwn.leaving (fun _ s' => RF s (hideAll s.heap [d, dio]) (envAt fGet L 701) L (LedV (lexView io pb fs) w x d (LedIO w dio)) [(selfN, .val (.ref x)), (sN "raw", .none)] ⟨lsMV st', [], buf, p'⟩ s') (fun _ s₆ hR₆ => ?_) 0 hR₅
        refine (psound (ok _) 10).2.2.1 _ _ _ true ⟨lsMV st', [], buf, p'⟩ [] (by kernel_rfl) (fun _ h => nomatch h) _ _ hR₆ fun s₇ hR₇ => ?_
        refine xrun (ok _) 20 (.ret .none) [(selfN, .val (.ref x)), (sN "raw", .none)] ⟨lsMV st', [], buf, p'⟩ [] (by kernel_rfl) (fun _ h => nomatch h) hR₇ fun s₈ hR₈ fl hfl => ?_
        cases fl <;> first | exact hfl.elim | exact fin _ _ hR₈ hfl
      · have hrv : resMV q tok = .str tok := if_neg hq
        rw [hrv] at hR₄ fin
        refine xseg (ok _) 20 [(selfN, .val (.ref x)), (sN "raw", .str tok)] ⟨lsMV st', [], buf, p'⟩ [] 1 (by kernel_rfl) (fun _ h => nomatch h) hR₄ fun s₅ hR₅ => ?_
        refine xwhAt (sts := (bodyOf fGet).drop 2) 1 (by kernel_rfl) (by kernel_rfl) PassesOwn.leaving (fun _ s' => RF s (hideAll s.heap [d, dio]) (envAt fGet L 701) L (LedV (lexView io pb fs) w x d (LedIO w dio)) [(selfN, .val (.ref x)), (sN "raw", .str tok)] ⟨lsMV st', [], buf, p'⟩ s') (fun _ s₆ hR₆ => ?_) 0 hR₅
        refine (psound (ok _) 10).2.2.1 _ _ _ false ⟨lsMV st', [], buf, p'⟩ [] (by kernel_rfl) (fun _ h => nomatch h) _ _ hR₆ fun s₇ hR₇ => ?_
        refine xrun (ok _) 20 (.ret (.str tok)) [(selfN, .val (.ref x)), (sN "raw", .str tok)] ⟨lsMV st', [], buf, p'⟩ [] (by kernel_rfl) (fun _ h => nomatch h) hR₇ fun s₈ hR₈ fl hfl => ?_
        cases fl <;> first | exact hfl.elim | exact fin _ _ hR₈ hfl
    · intro hnone
      obtain ⟨outer, bs, sk1, sk2, sk3⟩ := sk hnone
      have kp : ∀ b o, s.heap.get? b = some o → b ∉ [d, dio] → s₂.heap.get? b = some o := fun b o e hb => hide_keeps F e hb
      refine ⟨envAt fGet L 701 :: outer, bs, sk1.push hkf F hL kp sk2, fun b hb => ⟨(sk2 b hb).1, ?_⟩, fun e s₃ hs₃ fx => ?_⟩
      · show b ∉ L :: outer.filterMap (·.frame)
        intro q
        rcases List.mem_cons.mp q with q | q
        · simp only [List.mem_cons, List.not_mem_nil, or_false] at hb
          rcases hb with rfl | rfl
          · rw [q, hL] at hd; cases hd
          · rw [q, hL] at hdio; cases hdio
        · exact (sk2 b hb).2 q
      · exact leave_fly (Around.frames_deeper sk1.fr) rfl fx fun h'' fx' => sk3 e _ ((h1.trans hs₃).put _ _) (fx'.from kp)
end
end Mine
end -- E2
section -- E3
set_option maxRecDepth 100000
namespace Mine

noncomputable def fNext : FuncData := fdAt 737
theorem ff_next (w : World) : FnFacts w 737 fNext := ⟨by kernel_rfl, by kernel_rfl⟩
theorem meth_get (w : World) : methOk (KK w) 740 701 (sN "get_token") = true := by kernel_rfl
theorem gF_SI (w : World) : gF w fNext.scope (sN "StopIteration") = some (.type "StopIteration") := by kernel_rfl
noncomputable def siOk (st : Stmt) : Bool := ((asRaise st).bind fun e => (asName e).bind fun n => cond (n == sN "StopIteration") (some ()) none).isSome
theorem siOk_eq {st : Stmt} (h : siOk st = true) : ∃ np pos, st = .Raise (some (.Name (sN "StopIteration") np)) none pos := by
  obtain ⟨u, h⟩ := Option.isSome_iff_exists.mp h
  refine bnd h fun e he h => bnd h fun n hn h => cnd h fun c _ => ?_
  obtain ⟨p, rfl⟩ := asRaise_eq he
  obtain ⟨np, rfl⟩ := asName_eq hn
  rw [eq_of_beq c]
  exact ⟨np, p, rfl⟩

/-- a new exception leaves its frame -/
theorem made_leaves {w : World} {A : Around} {s₀ s : Shared} {R : Result → Shared → Prop} {fp : List Addr} {L f : Addr} {fd : FuncData} {m : Str → Option Value} {outer : List Env} {bs h' : Heap} {e : Addr} {cls : String} {args : List Value} (hk : fd.scope.kind = .function)
    (F : Fr (hideAll s₀.heap fp) L s.heap m) (sr : SameRest s₀ s) (hL : s₀.heap.get? L = none) (sk : Stk A outer bs s₀.heap) (hfp : ∀ b ∈ fp, bs.get? b = none ∧ b ∉ outer.filterMap (·.frame)) (hm : Heap.MadeExc s.heap h' e cls args)
    (post : ∀ e s', SameRest s₀ s' → FlyX bs outer e (.type cls) fp s₀.heap s'.heap → R (.error (.ref e)) s') :
    wpAny (model PG w) (A.deeper (envAt fd L f)) (leaving (envAt fd L f) (.ref e)) (fun _ s'' => R (.error (.ref e)) s'') (fun e' s'' => R (.error e') s'') { s with heap := h' } := by
  obtain ⟨t, he, _, _⟩ := hm.there
  have kp : ∀ b o, s₀.heap.get? b = some o → b ∉ fp → h'.get? b = some o := fun b o e hb => hm.keeps b o (hide_keeps F e hb)
  have kb : bs.StaysIn h' := fun b o e => kp b o (sk.st b o e) fun q => by rw [(hfp b q).1] at e; cases e
  have hen : bs.get? e = none := by
    cases q : bs.get? e with
    | none => rfl
    | some o => have := hide_keeps F (sk.st e o q) fun q' => by rw [(hfp e q').1] at q; cases q
                rw [hm.new] at this; cases this
  have hbL : bs.get? L = none := by
    cases q : bs.get? L with
    | none => rfl
    | some o => have := sk.st L o q; rw [hL] at this; cases this
  have hl : h'.FunFrames bs (envAt fd L f :: outer) := .cons (by show fd.scope.kind ≠ .module; rw [hk]; decide) rfl (F.ns.keeps hm.keeps) hbL (frames_on (fun b o e hb => ⟨o, kp b o e fun q => (hfp b q).2 hb, rfl⟩) sk.ff)
  refine wpAny_leaving_first (Around.frames_deeper sk.fr) hl rfl he kb hen rfl rfl fun h'' hleft => ?_
  obtain ⟨l1, ⟨_, _, l2⟩, l3, l4⟩ := hleft
  exact post e _ (sr.put _ _) ⟨⟨l1, hen, l2, l3⟩, fun b o e' hb hnf => l4 b o (kp b o e' hb) hnf⟩

section
variable {w : World} {mg mb : Str → Option Value} {b₀ : Heap} {A : Around} {s : Shared} {R : Result → Shared → Prop} {x d io dio pb fs : Addr}
theorem next_c {es es2 : List DictEntry} {n n2 : Nat} {buf : List Nat} {p : Nat} {st : LS} {k1 k2 : Int} {outer : List Env} {bs : Heap} (Bs : Base w mg mb b₀) (sy : b₀.StaysIn s.heap) (hroom : A.depth < 850) (hx : s.heap.get? x = some (instObj 740 d)) (hd : s.heap.get? d = some (dictOf es n)) (hd0 : b₀.get? d = none) (hr : AttRel w (lexAtt io pb fs (lsMV st) []) es)
    (hio : s.heap.get? io = some (instObj 605 dio)) (hdio : s.heap.get? dio = some (dictOf es2 n2)) (hdio0 : b₀.get? dio = none) (hr2 : AttRel w (ioAtt buf p) es2) (hne : dio ≠ d) (hpb : s.heap.get? pb = some (deqObj k1)) (hfs : s.heap.get? fs = some (deqObj k2))
    (hp : p ≤ buf.length) (hlen : buf.length ≤ 100000) (hal : ∀ c ∈ buf, c ∈ alpha) (hst : lsOk st 32) (sk : Stk A outer bs s.heap) (hfp : ∀ b ∈ [d, dio], bs.get? b = none ∧ b ∉ outer.filterMap (·.frame))
    (post : ∀ q tok st' rem, rtk (buf.drop p) st false 32 [] = some (q, tok, st', rem) → (!q && tok.isEmpty) = false → ∀ v s' p', Sim v (.str tok) → p' ≤ buf.length → buf.drop p' = rem → OutV (lexView io pb fs) w s s' d [dio] ⟨lsMV st', [], buf, p'⟩ (LedIO w dio) → R (.ok (.ret v)) s')
    (postS : ∀ q tok st' rem, rtk (buf.drop p) st false 32 [] = some (q, tok, st', rem) → (!q && tok.isEmpty) = true → ∀ e s', SameRest s s' → FlyX bs outer e (.type "StopIteration") [d, dio] s.heap s'.heap → R (.error (.ref e)) s')
    (postV : rtk (buf.drop p) st false 32 [] = none → ∀ e s', SameRest s s' → FlyX bs outer e (.type "ValueError") [d, dio] s.heap s'.heap → R (.error (.ref e)) s') :
    codeAny (model PG w) A (.call (.ref 737) ⟨[.ref x], []⟩) R s := by
  have hrl : recursionLimit = 1000 := rfl
  have hxd : x ≠ d := fun e => by rw [e, hd] at hx; cases hx
  have hxdi : x ≠ dio := fun e => by rw [e, hdio] at hx; cases hx
  have hid : io ≠ d := fun e => by rw [e, hd] at hio; cases hio
  have hidi : io ≠ dio := fun e => by rw [e, hdio] at hio; cases hio
  have hpd : pb ≠ d := fun e => by rw [e, hd] at hpb; exact deq_ne hpb
  have hpdi : pb ≠ dio := fun e => by rw [e, hdio] at hpb; exact deq_ne hpb
  have hfd : fs ≠ d := fun e => by rw [e, hd] at hfs; exact deq_ne hfs
  have hfdi : fs ≠ dio := fun e => by rw [e, hdio] at hfs; exact deq_ne hfs
  refine enterView (lexView io pb fs) (e₀ := ⟨lsMV st, [], buf, p⟩) (Led2 := LedIO w dio) [] [sN "token"] lexOks [(dio, dictOf es2 n2)] noE noS noC Bs sy (ff_next w) (by omega) .nil (by kernel_rfl) (by kernel_rfl) (by kernel_rfl) (lexOks_ok w) (lexCls_ok w) hx hd hd0 hr (Nat.le_of_ble_eq_true rfl) LedIO_set
    (fun q hq => by cases hq with | head => exact ⟨hdio, hdio0⟩ | tail _ h => exact nomatch h) (fun q hq => by cases hq with | head => exact hne | tail _ h => exact nomatch h) (by simpa using hxdi) ⟨es2, n2, rfl, hr2, hlen⟩
    (fun L Bg stg => noHooks) fun L s₂ ok hR₂ hL hL0 => ?_
  have hkf : fNext.scope.kind = .function := by kernel_rfl
  have syg : b₀.StaysIn (hideAll s.heap [d, dio]) := fun b o e => hideAll_get _ (sy b o e) fun q => by
    simp only [List.mem_cons, List.not_mem_nil, or_false] at q
    rcases q with rfl | rfl
    · rw [hd0] at e; cases e
    · rw [hdio0] at e; cases e
  have Bg : Base w mg mb (hideAll s.heap [d, dio]) := Bs.keeps syg
  have hb1 : bodyOf fNext = stAt (bodyOf fNext) 0 :: (bodyOf fNext).drop 1 := by kernel_rfl
  have hasg : isAsgM (sN "token") (sN "get_token") (stAt (bodyOf fNext) 0) = true := by kernel_rfl
  rw [hb1]
  generalize stAt (bodyOf fNext) 0 = st1 at hasg
  obtain ⟨yp, zp, ap, pp, ps, rfl, hline⟩ := isAsgM_eq hasg
  · have hR₂' := hR₂
    obtain ⟨h1, m, own, F, N, l, hm, es', n', rest, rfl, hr', hz, hdd, es3, n3, rfl, hr3, hl3⟩ := hR₂
    have kp : ∀ b o, s.heap.get? b = some o → b ∉ [d, dio] → s₂.heap.get? b = some o := fun b o e hb => hide_keeps F e hb
    refine wpAny_execs_cons (wpAny_Assign_Name (wp_meth0 hline (fun Q' hq => ld F hm hq hkf rfl rfl) F Bg.X (kp _ _ hx (by simp [hxd, hxdi])) (N _ (.head _)).1 hr' (meth_get w) (by kernel_rfl) ?_) rfl)
    refine get_c (st := st) Bs (fun b o e => F.keep b o (syg b o e)) (by show A.depth + 1 < 860; omega) (kp _ _ hx (by simp [hxd, hxdi])) (N _ (.head _)).1 hd0 hr' (kp _ _ hio (by simp [hid, hidi])) (N _ (.tail _ (.head _))).1 hdio0 hr3 hne (kp _ _ hpb (by simp [hpd, hpdi])) (kp _ _ hfs (by simp [hfd, hfdi])) hp hlen hal hst ?_ ?_
    · intro q tok st' rem hres v s₃ p' hv hp' hrem ho
      have hR₃ := hR₂'.afterV ho
      refine (ok _).store (y := sN "token") hR₃ (by kernel_rfl) hv fun s₄ hR₄ => ?_
      have hR₄ : RF s (hideAll s.heap [d, dio]) (envAt fNext L 737) L (LedV (lexView io pb fs) w x d (LedIO w dio)) [(selfN, .val (.ref x)), (sN "token", resMV q tok)] ⟨lsMV st', [], buf, p'⟩ s₄ := hR₄
      by_cases hq : (!q && tok.isEmpty) = true
      · have hrv : resMV q tok = .none := if_pos hq
        rw [hrv] at hR₄
        refine xrun (ok _) 20 (.at (getAt (pexec (viewFace (lexView io pb fs) w fNext.scope [sN "token"] lexOks x noE noS noC) 20 ((bodyOf fNext).drop 1) [(selfN, .val (.ref x)), (sN "token", .none)] ⟨lsMV st', [], buf, p'⟩))) [(selfN, .val (.ref x)), (sN "token", .none)] ⟨lsMV st', [], buf, p'⟩ [] (by kernel_rfl) (fun _ h => nomatch h) hR₄ fun s₅ hR₅ => ?_
        have hsi : siOk (getAt (pexec (viewFace (lexView io pb fs) w fNext.scope [sN "token"] lexOks x noE noS noC) 20 ((bodyOf fNext).drop 1) [(selfN, .val (.ref x)), (sN "token", .none)] ⟨lsMV st', [], buf, p'⟩)) = true := by kernel_rfl
        generalize getAt (pexec (viewFace (lexView io pb fs) w fNext.scope [sN "token"] lexOks x noE noS noC) 20 ((bodyOf fNext).drop 1) [(selfN, .val (.ref x)), (sN "token", .none)] ⟨lsMV st', [], buf, p'⟩) = stm at hsi
        show wpAny _ _ _ _ _ _
        obtain ⟨np, pos, rfl⟩ := siOk_eq hsi
        · obtain ⟨h5, m5, own5, F5, N5, l5, hm5⟩ := hR₅
          refine owsi_raiseC sk.hd (gF_name Bg F5 hkf (gF_SI w) ⟨rfl, rfl⟩) fun h' e hme => ?_
          exact made_leaves hkf F5 h5 hL sk hfp hme (postS q tok st' rem hres hq)
      · have hrv : resMV q tok = .str tok := if_neg hq
        rw [hrv] at hR₄
        refine xrun (ok _) 20 (.ret (.str tok)) [(selfN, .val (.ref x)), (sN "token", .str tok)] ⟨lsMV st', [], buf, p'⟩ [] (by kernel_rfl) (fun _ h => nomatch h) hR₄ fun s₈ hR₈ fl hfl => ?_
        cases fl <;> first | exact hfl.elim | exact post q tok st' rem hres (by simpa using hq) _ _ p' hfl hp' hrem (hR₈.outV rfl)
    · intro hnone
      refine ⟨envAt fNext L 737 :: outer, bs, sk.push hkf F hL kp hfp, fun b hb => ⟨(hfp b hb).1, ?_⟩, fun e s₃ hs₃ fx => ?_⟩
      · show b ∉ L :: outer.filterMap (·.frame)
        intro q
        rcases List.mem_cons.mp q with q | q
        · simp only [List.mem_cons, List.not_mem_nil, or_false] at hb
          rcases hb with rfl | rfl
          · rw [q, hL] at hd; cases hd
          · rw [q, hL] at hdio; cases hdio
        · exact (hfp b hb).2 q
      · exact leave_fly (Around.frames_deeper sk.fr) rfl fx fun h'' fx' => postV hnone e _ ((h1.trans hs₃).put _ _) (fx'.from kp)
end
end Mine
end -- E3
section -- E4
set_option maxRecDepth 100000
namespace Mine

/-- the tokens of what is left -/
inductive TokS : List Nat → LS → List (List Nat) → Prop
  | done {rem st q tok st' rem'} : rtk rem st false 32 [] = some (q, tok, st', rem') → (!q && tok.isEmpty) = true → TokS rem st []
  | more {rem st q tok st' rem' ws} : rtk rem st false 32 [] = some (q, tok, st', rem') → (!q && tok.isEmpty) = false → lsOk st' 32 → TokS rem' st' ws → TokS rem st (tok :: ws)
/-- what is left is refused -/
inductive TokB : List Nat → LS → Prop
  | bad {rem st} : rtk rem st false 32 [] = none → TokB rem st
  | more {rem st q tok st' rem'} : rtk rem st false 32 [] = some (q, tok, st', rem') → (!q && tok.isEmpty) = false → lsOk st' 32 → TokB rem' st' → TokB rem st

noncomputable abbrev frA (outer : List Env) : List Addr := outer.filterMap (·.frame)
/-- all stands as it stood, off the footprint; the stack's frames up to their slots -/
structure KeptF (outer : List Env) (fp : List Addr) (h h' : Heap) : Prop where
  old : ∀ b o, h.get? b = some o → b ∉ fp → b ∉ frA outer → h'.get? b = some o
  upto : ∀ b o, h.get? b = some o → b ∉ fp → (∀ vs, o.data ≠ .fields vs) → ∃ sl, h'.get? b = some { o with slots := sl }
theorem KeptF.refl (outer : List Env) (fp : List Addr) (h : Heap) : KeptF outer fp h h := ⟨fun _ _ e _ _ => e, fun _ o e _ _ => ⟨o.slots, e⟩⟩
theorem KeptF.trans {outer : List Env} {fp : List Addr} {h1 h2 h3 : Heap} (a : KeptF outer fp h1 h2) (b : KeptF outer fp h2 h3) : KeptF outer fp h1 h3 :=
  ⟨fun x o e p q => b.old x o (a.old x o e p q) p q, fun x o e p q => by
    obtain ⟨sl, e1⟩ := a.upto x o e p q
    obtain ⟨sl', e2⟩ := b.upto x { o with slots := sl } e1 p q
    exact ⟨sl', e2⟩⟩
theorem KeptF.of {outer : List Env} {fp : List Addr} {h h' : Heap} (k : ∀ b o, h.get? b = some o → b ∉ fp → h'.get? b = some o) : KeptF outer fp h h' := ⟨fun b o e p _ => k b o e p, fun b o e p _ => ⟨o.slots, k b o e p⟩⟩
theorem KeptF.mono {outer : List Env} {fp fp' : List Addr} {h h' : Heap} (k : KeptF outer fp h h') (hs : ∀ b ∈ fp, b ∈ fp') : KeptF outer fp' h h' := ⟨fun b o e p q => k.old b o e (fun z => p (hs b z)) q, fun b o e p q => k.upto b o e (fun z => p (hs b z)) q⟩
theorem KeptF.frames {outer : List Env} {fp : List Addr} {h h' base : Heap} (k : KeptF outer fp h h') (hfp : ∀ b ∈ fp, b ∉ frA outer) (ff : h.FunFrames base outer) : h'.FunFrames base outer := by
  have key : ∀ l : List Env, (∀ a ∈ l.filterMap (·.frame), a ∉ fp) → h.FunFrames base l → h'.FunFrames base l := by
    intro l
    induction l with
    | nil => intro _ _; trivial
    | cons env rest ih =>
      rintro hl ⟨hk, ⟨L, o, hf, hn, ho, hd⟩, hr⟩
      rw [List.filterMap_cons, hf] at hl
      obtain ⟨sl, e⟩ := k.upto L o ho (hl L (.head _)) hd
      exact ⟨hk, ⟨L, _, hf, hn, e, hd⟩, ih (fun a ha => hl a (.tail _ ha)) hr⟩
  exact key outer (fun a ha hb => hfp a hb ha) ff
theorem frames_base {h b b' : Heap} : ∀ {l : List Env}, (∀ a ∈ l.filterMap (·.frame), b'.get? a = none) → h.FunFrames b l → h.FunFrames b' l
  | [], _, _ => trivial
  | env :: rest, hl, ⟨hk, ⟨L, o, hf, _, ho, hd⟩, hr⟩ => by
    rw [List.filterMap_cons, hf] at hl
    exact ⟨hk, ⟨L, o, hf, hl L (.head _), ho, hd⟩, frames_base (fun a ha => hl a (.tail _ ha)) hr⟩
theorem FlyX.kept {outer : List Env} {e : Addr} {cls : Value} {fp : List Addr} {h h' : Heap} (f : FlyX (hideAll h (fp ++ frA outer)) outer e cls fp h h') : KeptF outer fp h h' :=
  ⟨fun b o e' p q => f.1.1 b o (hideAll_get _ e' fun z => (List.mem_append.mp z).elim p q), f.2⟩

theorem rtk_le : ∀ {rem : List Nat} {st : LS} {q : Bool} {e : Nat} {tok : List Nat} {q' tok' st' rem'}, rtk rem st q e tok = some (q', tok', st', rem') → rem'.length ≤ rem.length
  | [], st, q, e, tok, q', tok', st', rem', h => by
    rw [rtk_nil] at h
    split at h
    · cases h; exact Nat.le_refl _
    · cases h
  | c :: r, st, q, e, tok, q', tok', st', rem', h => by
    rw [rtk_cons] at h
    split at h
    · exact Nat.le_trans (rtk_le h) (Nat.le_succ _)
    · cases h; exact Nat.le_succ _
    · cases h
theorem rtk_lt {rem : List Nat} {st : LS} {q' tok' st' rem'} (h : rtk rem st false 32 [] = some (q', tok', st', rem')) (hq : (!q' && tok'.isEmpty) = false) : rem'.length < rem.length := by
  cases rem with
  | nil =>
    rw [rtk_nil] at h
    unfold turn at h
    cases st <;> simp at h
    all_goals (obtain ⟨rfl, rfl, _⟩ := h; simp at hq)
  | cons c r =>
    rw [rtk_cons] at h
    split at h
    · exact Nat.lt_succ_of_le (rtk_le h)
    · cases h; exact Nat.lt_succ_self _
    · cases h
noncomputable abbrev lstObj (vs : List Value) (c : Nat) : Obj := { cls := .type "list", data := .seq vs.toArray c }
section
variable {w : World} {mg mb : Str → Option Value} {b₀ : Heap} {A : Around} {s : Shared} {R : Result → Shared → Prop} {x d io dio pb fs : Addr} {outer : List Env}

/-- the lexer stands in the heap -/
structure LexAt (w : World) (x d io dio pb fs : Addr) (st : LS) (buf : List Nat) (p : Nat) (h : Heap) : Prop where
  hx : h.get? x = some (instObj 740 d)
  hd : ∃ es n, h.get? d = some (dictOf es n) ∧ AttRel w (lexAtt io pb fs (lsMV st) []) es
  hio : h.get? io = some (instObj 605 dio)
  hdio : ∃ es n, h.get? dio = some (dictOf es n) ∧ AttRel w (ioAtt buf p) es
  hpb : ∃ k, h.get? pb = some (deqObj k)
  hfs : ∃ k, h.get? fs = some (deqObj k)

theorem extend_loop (Bs : Base w mg mb b₀) (hroom : A.depth < 840) (hh : A.handled = none) (hfr : A.frames = some outer) (hd0 : b₀.get? d = none) (hdio0 : b₀.get? dio = none) (hne : dio ≠ d) (hfp : ∀ b ∈ [d, dio], b ∉ frA outer) {S : Addr} (hS0 : b₀.get? S = none) (hSf : S ∉ frA outer) (hSd : S ∉ [d, dio])
    {buf : List Nat} (hlen : buf.length ≤ 100000) (hal : ∀ c ∈ buf, c ∈ alpha) :
    ∀ (rem : List Nat) (st : LS) (ws : List (List Nat)), TokS rem st ws → ∀ (s : Shared) (p : Nat) (vs : List Value) (c : Nat), lsOk st 32 → p ≤ buf.length → buf.drop p = rem → b₀.StaysIn s.heap → s.heap.FunFrames b₀ outer → LexAt w x d io dio pb fs st buf p s.heap → s.heap.get? S = some (lstObj vs c) → vs.length ≤ p →
      (∀ s' us c', SameRest s s' → KeptF outer [d, dio, S] s.heap s'.heap → Sims us (ws.map MV.str) → s'.heap.get? S = some (lstObj (vs ++ us) c') → R (.ok (.ret .none)) s') →
      codeAny (model PG w) A (.builtin "list.extend.loop" ⟨[.ref S, .ref x, .none], []⟩) R s := by
  intro rem st ws ht
  induction ht with
  | @done rem st q tok st' rem' hres hq =>
    intro s p vs c hst hp hrem sy ff lx hS hvl post
    obtain ⟨es, n, hd, hr⟩ := lx.hd
    obtain ⟨es2, n2, hdio, hr2⟩ := lx.hdio
    obtain ⟨k1, hpb⟩ := lx.hpb
    obtain ⟨k2, hfs⟩ := lx.hfs
    refine codeAny_builtin F.entry_extend_loop ?_
    rw [Around.under_plainId F.plain_extend_loop _]
    show wpAny _ A.in1 (pyNext (.ref x) >>= _) _ _ s
    refine wpAny_bind ?_
    unfold pyNext
    refine wpAny_bind (wpAny_attempt (special_fn (f := 737) (od := some (dictOf es n)) (name := "__next__") (args := []) (Bs.keeps sy).X ⟨lx.hx, rfl, rfl, hd⟩ (by kernel_rfl) (by kernel_rfl) (wpAny_call ?_)))
    refine next_c (outer := outer) (bs := hideAll s.heap ([d, dio] ++ frA outer)) Bs sy (by show A.depth < 850; omega) lx.hx hd hd0 hr lx.hio hdio hdio0 hr2 hne hpb hfs hp hlen hal hst ⟨hh, hfr, fun b o e => of_hideAll _ e, frames_base (fun a ha => hideAll_none _ (List.mem_append_right _ ha)) ff⟩ (fun b hb => ⟨hideAll_none _ (List.mem_append_left _ hb), hfp b hb⟩) ?_ ?_ ?_
    · intro q2 tok2 st2 rem2 hres2 hq2
      rw [hrem, hres] at hres2
      cases hres2
      rw [hq] at hq2; cases hq2
    · intro q2 tok2 st2 rem2 hres2 hq2 e s' hs' fx
      obtain ⟨ob, hob, hcls⟩ := fx.1.there
      refine wpAny_bind (wpAny_isInstance (T := "StopIteration") (b := true) ⟨ob, hob, hcls⟩ (by rw [isSubtype_type]; kernel_rfl) ?_)
      refine wpAny_pure (wpAny_pure ?_)
      have kf := fx.kept
      refine post s' [] c hs' (kf.mono fun b hb => by simp only [List.mem_cons, List.not_mem_nil, or_false] at hb ⊢; exact hb.elim .inl fun h => .inr (.inl h)) .nil ?_
      rw [List.append_nil]
      exact kf.old S _ hS hSd hSf
    · intro hn
      rw [hrem, hres] at hn; cases hn
  | @more rem st q tok st' rem' ws hres hq hst' _ ih =>
    intro s p vs c hst hp hrem sy ff lx hS hvl post
    obtain ⟨es, n, hd, hr⟩ := lx.hd
    obtain ⟨es2, n2, hdio, hr2⟩ := lx.hdio
    obtain ⟨k1, hpb⟩ := lx.hpb
    obtain ⟨k2, hfs⟩ := lx.hfs
    refine codeAny_builtin F.entry_extend_loop ?_
    rw [Around.under_plainId F.plain_extend_loop _]
    show wpAny _ A.in1 (pyNext (.ref x) >>= _) _ _ s
    refine wpAny_bind ?_
    unfold pyNext
    refine wpAny_bind (wpAny_attempt (special_fn (f := 737) (od := some (dictOf es n)) (name := "__next__") (args := []) (Bs.keeps sy).X ⟨lx.hx, rfl, rfl, hd⟩ (by kernel_rfl) (by kernel_rfl) (wpAny_call ?_)))
    refine next_c (outer := outer) (bs := hideAll s.heap ([d, dio] ++ frA outer)) Bs sy (by show A.depth < 850; omega) lx.hx hd hd0 hr lx.hio hdio hdio0 hr2 hne hpb hfs hp hlen hal hst ⟨hh, hfr, fun b o e => of_hideAll _ e, frames_base (fun a ha => hideAll_none _ (List.mem_append_right _ ha)) ff⟩ (fun b hb => ⟨hideAll_none _ (List.mem_append_left _ hb), hfp b hb⟩) ?_ ?_ ?_
    · intro q2 tok2 st2 rem2 hres2 hq2 v s' p' hv hp' hrem' ho
      rw [hrem, hres] at hres2
      cases hres2
      refine wpAny_pure ?_
      obtain ⟨o1, o2, es', n', rest', o3, o4, o5, es3, n3, rfl, o6, o7⟩ := ho
      have hxd : x ∉ [d, dio] := fun e => by
        simp only [List.mem_cons, List.not_mem_nil, or_false] at e
        rcases e with rfl | rfl
        · have := lx.hx; rw [hd] at this; cases this
        · have := lx.hx; rw [hdio] at this; cases this
      have hid : io ∉ [d, dio] := fun e => by
        simp only [List.mem_cons, List.not_mem_nil, or_false] at e
        rcases e with rfl | rfl
        · have := lx.hio; rw [hd] at this; cases this
        · have := lx.hio; rw [hdio] at this; cases this
      have hpd : pb ∉ [d, dio] := fun e => by
        simp only [List.mem_cons, List.not_mem_nil, or_false] at e
        rcases e with rfl | rfl
        · rw [hd] at hpb; exact deq_ne hpb
        · rw [hdio] at hpb; exact deq_ne hpb
      have hfd : fs ∉ [d, dio] := fun e => by
        simp only [List.mem_cons, List.not_mem_nil, or_false] at e
        rcases e with rfl | rfl
        · rw [hd] at hfs; exact deq_ne hfs
        · rw [hdio] at hfs; exact deq_ne hfs
      have hS' := o2 _ _ hS hSd
      have hlt := rtk_lt (hrem ▸ hres) hq
      have hpp : p + 1 ≤ p' := by
        rw [← hrem', List.length_drop, List.length_drop] at hlt
        omega
      have hsz : vs.length + 1 ≤ sizeLine := by rw [sizeLine_eq]; omega
      show wpAny _ A.in1 (updateSeq S (·.push v) >>= _) _ _ _
      refine wpAny_bind (wpAny_updateSeq (hz := by simp; omega) hS' rfl ?_)
      have hS2 := Heap.get?_update_self (Obj.mapSeq (·.push v)) hS' rfl
      have oth : ∀ b o, b ≠ S → s'.heap.get? b = some o → (s'.heap.update S (Obj.mapSeq (·.push v))).get? b = some o := fun b o hb e => (Heap.get?_update_other _ _ (Ne.symm hb)).trans e
      have dat : ∀ {b : Addr} {o : Obj}, s.heap.get? b = some o → (∀ xs k, o.data ≠ .seq xs k) → b ≠ S := fun e1 e2 e => by
        rw [e, hS] at e1
        cases e1
        exact e2 _ _ rfl
      have xS : x ≠ S := dat lx.hx fun _ _ q => nomatch q
      have iS : io ≠ S := dat lx.hio fun _ _ q => nomatch q
      have pS : pb ≠ S := dat hpb fun _ _ q => nomatch q
      have fS : fs ≠ S := dat hfs fun _ _ q => nomatch q
      have dS : d ≠ S := dat hd fun _ _ q => nomatch q
      have diS : dio ≠ S := dat hdio fun _ _ q => nomatch q
      have kf : KeptF outer [d, dio, S] s.heap (s'.heap.update S (Obj.mapSeq (·.push v))) := .of fun b o e hb => by
        simp only [List.mem_cons, List.not_mem_nil, or_false, not_or] at hb
        exact oth b o hb.2.2 (o2 b o e (by simp [hb.1, hb.2.1]))
      have hS3 : (s'.heap.update S (Obj.mapSeq (·.push v))).get? S = some (lstObj (vs ++ [v]) (if (vs.toArray.push v).size == vs.toArray.size then c else c + 1)) := by
        rw [hS2]
        simp [Obj.mapSeq, lstObj]
      refine wpAny_pure ⟨plainId_quiet F.plain_extend_loop _, ih { s' with heap := s'.heap.update S (Obj.mapSeq (·.push v)) } p' (vs ++ [v]) _ hst' hp' hrem' ?_ ?_ ?_ hS3 (by rw [List.length_append, List.length_singleton]; omega) fun s3 us c' h1 h2 h3 h4 => ?_⟩
      · intro b o e
        have hbS : b ≠ S := fun q => by rw [q, hS0] at e; cases e
        exact oth b o hbS (o2 b o (sy b o e) fun q => by
          simp only [List.mem_cons, List.not_mem_nil, or_false] at q
          rcases q with rfl | rfl
          · rw [hd0] at e; cases e
          · rw [hdio0] at e; cases e)
      · exact kf.frames (fun b hb => by
          simp only [List.mem_cons, List.not_mem_nil, or_false] at hb
          rcases hb with rfl | rfl | rfl
          · exact hfp _ (.head _)
          · exact hfp _ (.tail _ (.head _))
          · exact hSf) ff
      · exact ⟨oth _ _ xS (o2 _ _ lx.hx hxd), ⟨es', n', oth _ _ dS o3, o4⟩, oth _ _ iS (o2 _ _ lx.hio hid), ⟨es3, n3, oth _ _ diS (o5 _ (.head _)), o6⟩, ⟨k1, oth _ _ pS (o2 _ _ hpb hpd)⟩, ⟨k2, oth _ _ fS (o2 _ _ hfs hfd)⟩⟩
      · refine post s3 (v :: us) c' ((o1.put _ _).trans h1) (kf.trans h2) (.cons hv h3) ?_
        rw [h4, List.append_assoc]; rfl
    · intro q2 tok2 st2 rem2 hres2 hq2
      rw [hrem, hres] at hres2
      cases hres2
      rw [hq] at hq2; cases hq2
    · intro hn
      rw [hrem, hres] at hn; cases hn

theorem FlyX.mono {bs h h' : Heap} {outer : List Env} {e : Addr} {cls : Value} {fp fp' : List Addr} (f : FlyX bs outer e cls fp h h') (hs : ∀ b ∈ fp, b ∈ fp') : FlyX bs outer e cls fp' h h' := ⟨f.1, fun b o e' hb hnf => f.2 b o e' (fun z => hb (hs b z)) hnf⟩

theorem extend_bad {bs : Heap} (Bs : Base w mg mb b₀) (hroom : A.depth < 840) (hh : A.handled = none) (hfr : A.frames = some outer) (hd0 : b₀.get? d = none) (hdio0 : b₀.get? dio = none) (hne : dio ≠ d) (hfp : ∀ b ∈ [d, dio], b ∉ frA outer) {S : Addr} (hS0 : b₀.get? S = none) (hSf : S ∉ frA outer) (hSd : S ∉ [d, dio])
    (hbs : ∀ b ∈ [d, dio, S], bs.get? b = none) {buf : List Nat} (hlen : buf.length ≤ 100000) (hal : ∀ c ∈ buf, c ∈ alpha) :
    ∀ (rem : List Nat) (st : LS), TokB rem st → ∀ (s : Shared) (p : Nat) (vs : List Value) (c : Nat), lsOk st 32 → p ≤ buf.length → buf.drop p = rem → b₀.StaysIn s.heap → bs.StaysIn s.heap → s.heap.FunFrames bs outer → LexAt w x d io dio pb fs st buf p s.heap → s.heap.get? S = some (lstObj vs c) → vs.length ≤ p →
      (∀ e s', SameRest s s' → FlyX bs outer e (.type "ValueError") [d, dio, S] s.heap s'.heap → R (.error (.ref e)) s') →
      codeAny (model PG w) A (.builtin "list.extend.loop" ⟨[.ref S, .ref x, .none], []⟩) R s := by
  intro rem st ht
  induction ht with
  | @bad rem st hres =>
    intro s p vs c hst hp hrem sy sb ff lx hS hvl post
    obtain ⟨es, n, hd, hr⟩ := lx.hd
    obtain ⟨es2, n2, hdio, hr2⟩ := lx.hdio
    obtain ⟨k1, hpb⟩ := lx.hpb
    obtain ⟨k2, hfs⟩ := lx.hfs
    refine codeAny_builtin F.entry_extend_loop ?_
    rw [Around.under_plainId F.plain_extend_loop _]
    show wpAny _ A.in1 (pyNext (.ref x) >>= _) _ _ s
    refine wpAny_bind ?_
    unfold pyNext
    refine wpAny_bind (wpAny_attempt (special_fn (f := 737) (od := some (dictOf es n)) (name := "__next__") (args := []) (Bs.keeps sy).X ⟨lx.hx, rfl, rfl, hd⟩ (by kernel_rfl) (by kernel_rfl) (wpAny_call ?_)))
    refine next_c (outer := outer) (bs := bs) Bs sy (by show A.depth < 850; omega) lx.hx hd hd0 hr lx.hio hdio hdio0 hr2 hne hpb hfs hp hlen hal hst ⟨hh, hfr, sb, ff⟩ (fun b hb => ⟨hbs b (by simp only [List.mem_cons, List.not_mem_nil, or_false] at hb ⊢; exact hb.elim .inl fun h => .inr (.inl h)), hfp b hb⟩) ?_ ?_ ?_
    · intro q2 tok2 st2 rem2 hres2
      rw [hrem, hres] at hres2; cases hres2
    · intro q2 tok2 st2 rem2 hres2
      rw [hrem, hres] at hres2; cases hres2
    · intro _ e s' hs' fx
      obtain ⟨ob, hob, hcls⟩ := fx.1.there
      refine wpAny_bind (wpAny_isInstance (T := "ValueError") (b := false) ⟨ob, hob, hcls⟩ (by rw [isSubtype_type]; kernel_rfl) ?_)
      exact wpAny_throw (post e s' hs' (fx.mono fun b hb => by simp only [List.mem_cons, List.not_mem_nil, or_false] at hb ⊢; exact hb.elim .inl fun h => .inr (.inl h)))
  | @more rem st q tok st' rem' hres hq hst' _ ih =>
    intro s p vs c hst hp hrem sy sb ff lx hS hvl post
    obtain ⟨es, n, hd, hr⟩ := lx.hd
    obtain ⟨es2, n2, hdio, hr2⟩ := lx.hdio
    obtain ⟨k1, hpb⟩ := lx.hpb
    obtain ⟨k2, hfs⟩ := lx.hfs
    refine codeAny_builtin F.entry_extend_loop ?_
    rw [Around.under_plainId F.plain_extend_loop _]
    show wpAny _ A.in1 (pyNext (.ref x) >>= _) _ _ s
    refine wpAny_bind ?_
    unfold pyNext
    refine wpAny_bind (wpAny_attempt (special_fn (f := 737) (od := some (dictOf es n)) (name := "__next__") (args := []) (Bs.keeps sy).X ⟨lx.hx, rfl, rfl, hd⟩ (by kernel_rfl) (by kernel_rfl) (wpAny_call ?_)))
    refine next_c (outer := outer) (bs := bs) Bs sy (by show A.depth < 850; omega) lx.hx hd hd0 hr lx.hio hdio hdio0 hr2 hne hpb hfs hp hlen hal hst ⟨hh, hfr, sb, ff⟩ (fun b hb => ⟨hbs b (by simp only [List.mem_cons, List.not_mem_nil, or_false] at hb ⊢; exact hb.elim .inl fun h => .inr (.inl h)), hfp b hb⟩) ?_ ?_ ?_
    · intro q2 tok2 st2 rem2 hres2 hq2 v s' p' hv hp' hrem' ho
      rw [hrem, hres] at hres2
      cases hres2
      refine wpAny_pure ?_
      obtain ⟨o1, o2, es', n', rest', o3, o4, o5, es3, n3, rfl, o6, o7⟩ := ho
      have hxd : x ∉ [d, dio] := fun e => by
        simp only [List.mem_cons, List.not_mem_nil, or_false] at e
        rcases e with rfl | rfl
        · have := lx.hx; rw [hd] at this; cases this
        · have := lx.hx; rw [hdio] at this; cases this
      have hid : io ∉ [d, dio] := fun e => by
        simp only [List.mem_cons, List.not_mem_nil, or_false] at e
        rcases e with rfl | rfl
        · have := lx.hio; rw [hd] at this; cases this
        · have := lx.hio; rw [hdio] at this; cases this
      have hpd : pb ∉ [d, dio] := fun e => by
        simp only [List.mem_cons, List.not_mem_nil, or_false] at e
        rcases e with rfl | rfl
        · rw [hd] at hpb; exact deq_ne hpb
        · rw [hdio] at hpb; exact deq_ne hpb
      have hfd : fs ∉ [d, dio] := fun e => by
        simp only [List.mem_cons, List.not_mem_nil, or_false] at e
        rcases e with rfl | rfl
        · rw [hd] at hfs; exact deq_ne hfs
        · rw [hdio] at hfs; exact deq_ne hfs
      have hS' := o2 _ _ hS hSd
      have hlt := rtk_lt (hrem ▸ hres) hq
      have hpp : p + 1 ≤ p' := by
        rw [← hrem', List.length_drop, List.length_drop] at hlt
        omega
      have hsz : vs.length + 1 ≤ sizeLine := by rw [sizeLine_eq]; omega
      show wpAny _ A.in1 (updateSeq S (·.push v) >>= _) _ _ _
      refine wpAny_bind (wpAny_updateSeq (hz := by simp; omega) hS' rfl ?_)
      have hS2 := Heap.get?_update_self (Obj.mapSeq (·.push v)) hS' rfl
      have oth : ∀ b o, b ≠ S → s'.heap.get? b = some o → (s'.heap.update S (Obj.mapSeq (·.push v))).get? b = some o := fun b o hb e => (Heap.get?_update_other _ _ (Ne.symm hb)).trans e
      have dat : ∀ {b : Addr} {o : Obj}, s.heap.get? b = some o → (∀ xs k, o.data ≠ .seq xs k) → b ≠ S := fun e1 e2 e => by
        rw [e, hS] at e1
        cases e1
        exact e2 _ _ rfl
      have xS : x ≠ S := dat lx.hx fun _ _ q => nomatch q
      have iS : io ≠ S := dat lx.hio fun _ _ q => nomatch q
      have pS : pb ≠ S := dat hpb fun _ _ q => nomatch q
      have fS : fs ≠ S := dat hfs fun _ _ q => nomatch q
      have dS : d ≠ S := dat hd fun _ _ q => nomatch q
      have diS : dio ≠ S := dat hdio fun _ _ q => nomatch q
      have kf : KeptF outer [d, dio, S] s.heap (s'.heap.update S (Obj.mapSeq (·.push v))) := .of fun b o e hb => by
        simp only [List.mem_cons, List.not_mem_nil, or_false, not_or] at hb
        exact oth b o hb.2.2 (o2 b o e (by simp [hb.1, hb.2.1]))
      have hS3 : (s'.heap.update S (Obj.mapSeq (·.push v))).get? S = some (lstObj (vs ++ [v]) (if (vs.toArray.push v).size == vs.toArray.size then c else c + 1)) := by
        rw [hS2]
        simp [Obj.mapSeq, lstObj]
      refine wpAny_pure ⟨plainId_quiet F.plain_extend_loop _, ih { s' with heap := s'.heap.update S (Obj.mapSeq (·.push v)) } p' (vs ++ [v]) _ hst' hp' hrem' ?_ ?_ ?_ ?_ hS3 (by rw [List.length_append, List.length_singleton]; omega) fun e s3 h1 fx => ?_⟩
      · intro b o e
        have hbS : b ≠ S := fun q => by rw [q, hS0] at e; cases e
        exact oth b o hbS (o2 b o (sy b o e) fun q => by
          simp only [List.mem_cons, List.not_mem_nil, or_false] at q
          rcases q with rfl | rfl
          · rw [hd0] at e; cases e
          · rw [hdio0] at e; cases e)
      · intro b o e
        have hb : b ∉ [d, dio, S] := fun q => by rw [hbs b q] at e; cases e
        simp only [List.mem_cons, List.not_mem_nil, or_false, not_or] at hb
        exact oth b o hb.2.2 (o2 b o (sb b o e) (by simp [hb.1, hb.2.1]))
      · exact kf.frames (fun b hb => by
          simp only [List.mem_cons, List.not_mem_nil, or_false] at hb
          rcases hb with rfl | rfl | rfl
          · exact hfp _ (.head _)
          · exact hfp _ (.tail _ (.head _))
          · exact hSf) ff
      · exact ⟨oth _ _ xS (o2 _ _ lx.hx hxd), ⟨es', n', oth _ _ dS o3, o4⟩, oth _ _ iS (o2 _ _ lx.hio hid), ⟨es3, n3, oth _ _ diS (o5 _ (.head _)), o6⟩, ⟨k1, oth _ _ pS (o2 _ _ hpb hpd)⟩, ⟨k2, oth _ _ fS (o2 _ _ hfs hfd)⟩⟩
      · exact post e s3 ((o1.put _ _).trans h1) (fx.from fun b o e' hb => by
          simp only [List.mem_cons, List.not_mem_nil, or_false, not_or] at hb
          exact oth b o hb.2.2 (o2 b o e' (by simp [hb.1, hb.2.1])))
    · intro q2 tok2 st2 rem2 hres2 hq2
      rw [hrem, hres] at hres2
      cases hres2
      rw [hq] at hq2; cases hq2
    · intro hn
      rw [hrem, hres] at hn; cases hn
end
end Mine
end -- E4
section -- E5
set_option maxRecDepth 100000
namespace Mine

noncomputable def fIter : FuncData := fdAt 730
theorem ff_iter (w : World) : FnFacts w 730 fIter := ⟨by kernel_rfl, by kernel_rfl⟩
section
variable {w : World} {mg mb : Str → Option Value} {b₀ : Heap} {A : Around} {s : Shared} {R : Result → Shared → Prop} {x d io dio pb fs : Addr} {outer : List Env}
theorem iter_c (Bs : Base w mg mb b₀) (sy : b₀.StaysIn s.heap) (hroom : A.depth < 900) (post : ∀ s', s.heap.StaysIn s'.heap → SameRest s s' → R (.ok (.ret (.ref x))) s') : codeAny (model PG w) A (.call (.ref 730) ⟨[.ref x], []⟩) R s := by
  have hrl : recursionLimit = 1000 := rfl
  refine plainFn [selfN] (mvs := [.val (.ref x)]) [] 10 Bs sy (ff_iter w) (by omega) (.cons rfl .nil) (by kernel_rfl) (by kernel_rfl) (by kernel_rfl) (r := .val (.ref x)) (loc' := [(selfN, .val (.ref x))]) (o := []) (by kernel_rfl) (fun _ h => nomatch h) fun v s' hv hk hs => ?_
  cases hv
  exact post s' hk hs

/-- list(lex), up to the walk -/
theorem list_start {g : Heap} {L : Addr} {m : Str → Option Value} {es : List DictEntry} {n : Nat} {Q E : Value → Shared → Prop} (Bs : Base w mg mb b₀) (sy : b₀.StaysIn s.heap) (hroom : A.depth < 830) (F : Fr g L s.heap m) (syg : b₀.StaysIn g) (hx : s.heap.get? x = some (instObj 740 d)) (hd : s.heap.get? d = some (dictOf es n))
    (h : ∀ S s₁ c, SameRest s s₁ → s.heap.StaysIn s₁.heap → s.heap.get? S = none → S = s.heap.objs.size → s₁.heap.get? S = some (lstObj [] c) →
      codeAny (model PG w) A.in1 (.builtin "list.extend.loop" ⟨[.ref S, .ref x, .none], []⟩) (Ret (fun r s₂ => r = .none ∧ Q (.ref S) s₂) E) s₁) :
    wpAny (model PG w) A (call (.type "list") [.ref x]) Q E s := by
  refine callType_codes (Q₁ := fun obj s₁ => obj = .ref s.heap.objs.size ∧ s₁ = { s with heap := s.heap.push { cls := .type "list", data := .seq #[] } }) PySem.F.called_list (PySem.F.typeCall_list_1 _) PySem.F.entry_list_init
    (code_list_new _ ⟨rfl, rfl⟩) fun obj s₁ h₁ => ?_
  obtain ⟨rfl, rfl⟩ := h₁
  have hxS : x ≠ s.heap.objs.size := Nat.ne_of_lt (Heap.lt_size hx)
  have hS : (s.heap.push { cls := .type "list", data := .seq #[] }).get? s.heap.objs.size = some { cls := .type "list", data := .seq #[] } := Heap.get?_push_size _ rfl
  refine ⟨⟨_, hS, rfl⟩, PySem.F.args_list_init_2 _ _, ?_⟩
  show wpAny _ A.in1.in1 (do let old ← Builtin.List.listItems (.ref s.heap.objs.size); Builtin.List.listUpdate (.ref s.heap.objs.size) (fun _ => #[]); letGo old.toList.reverse; Builtin.List.listExtendWith (.ref s.heap.objs.size) (.ref x) .none) _ _ _
  refine wpAny_bind ?_
  unfold Builtin.List.listItems
  refine wpAny_bind (wpAny_seqItems hS rfl (wpAny_pure ?_))
  show wpAny _ A.in1.in1 (updateSeq s.heap.objs.size (fun _ => #[]) >>= fun _ => letGo (#[] : Array Value).toList.reverse >>= fun _ => Builtin.List.listExtendWith (.ref s.heap.objs.size) (.ref x) .none) _ _ _
  refine wpAny_bind (wpAny_updateSeq hS rfl ?_)
  have hS₂ := Heap.get?_update_self (Obj.mapSeq (fun _ => (#[] : Array Value))) hS rfl
  have oth : ∀ b o, s.heap.get? b = some o → ((s.heap.push { cls := .type "list", data := .seq #[] }).update s.heap.objs.size (Obj.mapSeq (fun _ => (#[] : Array Value)))).get? b = some o :=
    fun b o e => (Heap.get?_update_other _ _ (Ne.symm (Nat.ne_of_lt (Heap.lt_size e)))).trans (Heap.get?_push_of_some _ e)
  refine wpAny_bind (wpAny_letGo ?_)
  generalize hh2 : (s.heap.push { cls := .type "list", data := .seq #[] }).update s.heap.objs.size (Obj.mapSeq (fun _ => (#[] : Array Value))) = h2 at *
  have F2 : Fr g L h2 m := frAfter (fp := []) F (fun b o e _ => oth b o e) (fun _ q => nomatch q)
  have I2 : InstAt h2 x (instObj 740 d) 740 (some (dictOf es n)) := ⟨oth _ _ hx, rfl, rfl, oth _ _ hd⟩
  have Bg := Bs.keeps syg
  unfold Builtin.List.listExtendWith
  refine wpAny_bind (I2.type.here ?_)
  have h1 : Builtin.List.listSameRef (.ref s.heap.objs.size) (.ref x) = false := by simp [Builtin.List.listSameRef, Ne.symm hxS]
  have h2' : (Value.ref 740 == Value.type "list") = false := by decide
  have h3 : (Value.ref 740 == Value.type "tuple") = false := by decide
  simp only [h1, h2', h3, Bool.or_false, Bool.false_eq_true, if_false]
  refine wpAny_bind (owit_iter (s := { s with heap := h2 }) (f := 730) F2 Bg.X I2 (by kernel_rfl) (by kernel_rfl) (wpAny_call ?_))
  refine iter_c Bs (fun b o e => oth b o (sy b o e)) (by show A.depth < 900; omega) fun s3 hk3 hs3 => ?_
  have F3 : Fr g L s3.heap m := frAfter (fp := []) F2 (fun b o e _ => hk3 b o e) (fun _ q => nomatch q)
  have I3 : InstAt s3.heap x (instObj 740 d) 740 (some (dictOf es n)) := ⟨hk3 _ _ (oth _ _ hx), rfl, rfl, hk3 _ _ (oth _ _ hd)⟩
  have X3 := Bg.X.keeps F3.keep
  refine owit_it (g := .ref 737) F3 Bg.X I3 (by kernel_rfl) ?_
  refine wpAny_bind (wpAny_holding ?_)
  unfold Builtin.List.listLengthHint
  refine wpAny_bind (wpAny_bind (I3.type.here ((looks_findIn X3 (name := "__len__") (r := none) (by kernel_rfl)).here ?_)))
  show wpAny _ A.in1.in1 (specialOf (Value.ref x) (Str.ofString "__length_hint__") >>= _) _ _ _
  refine wpAny_bind (wpAny_bind (I3.type.here ((looks_findIn X3 (name := "__length_hint__") (r := none) (by kernel_rfl)).here ?_)))
  refine wpAny_pure ?_
  show wpAny _ A.in1.in1 (rule "list.extend.makes-room" >>= fun _ => Builtin.List.listTouch (.ref s.heap.objs.size) >>= fun _ =>
    again (.builtin "list.extend.loop" ⟨[.ref s.heap.objs.size, .ref x, .none], []⟩)) _ _ _
  refine wpAny_bind (wpAny_rule ?_)
  refine wpAny_bind ?_
  show wpAny _ A.in1.in1 (updateSeq s.heap.objs.size (·.push .none) >>= fun _ => updateSeq s.heap.objs.size (·.pop)) _ _ _
  have hS3 := hk3 _ _ hS₂
  refine wpAny_bind (wpAny_updateSeq hS3 rfl ?_)
  have hS4 := Heap.get?_update_self (Obj.mapSeq (·.push Value.none)) hS3 rfl
  refine wpAny_updateSeq (hz := by seq_fits) hS4 rfl ?_
  have hS5 := Heap.get?_update_self (Obj.mapSeq (·.pop)) hS4 rfl
  refine wpAny_pure ⟨plainId_quiet PySem.F.plain_extend_loop _, ?_⟩
  have oth3 : ∀ b o, s.heap.get? b = some o → ((s3.heap.update s.heap.objs.size (Obj.mapSeq (·.push Value.none))).update s.heap.objs.size (Obj.mapSeq (·.pop))).get? b = some o :=
    fun b o e => (Heap.get?_update_other _ _ (Ne.symm (Nat.ne_of_lt (Heap.lt_size e)))).trans ((Heap.get?_update_other _ _ (Ne.symm (Nat.ne_of_lt (Heap.lt_size e)))).trans (hk3 _ _ (oth _ _ e)))
  have hnone : s.heap.get? s.heap.objs.size = none := by
    cases e : s.heap.get? s.heap.objs.size with
    | none => rfl
    | some o => exact absurd (Heap.lt_size e) (Nat.lt_irrefl _)
  have hs0 : SameRest s { s with heap := h2 } := ⟨rfl, rfl, rfl⟩
  refine codeAny_mono (h s.heap.objs.size _ _ ((hs0.trans hs3).put _ _) oth3 hnone rfl hS5) fun r s' hr => ?_
  exact hr
end
end Mine
end -- E5
section -- E6
set_option maxRecDepth 100000
namespace Mine
section
variable {w : World} {mg mb : Str → Option Value} {b₀ : Heap} {A : Around} {s : Shared} {x d io dio pb fs : Addr} {outer : List Env} {g : Heap} {L : Addr} {m : Str → Option Value} {buf : List Nat}

theorem LexAt.keeps {st : LS} {p : Nat} {h h' : Heap} (l : LexAt w x d io dio pb fs st buf p h) (k : h.StaysIn h') : LexAt w x d io dio pb fs st buf p h' := by
  obtain ⟨hx, ⟨es, n, hd, hr⟩, hio, ⟨es2, n2, hdio, hr2⟩, ⟨k1, hpb⟩, ⟨k2, hfs⟩⟩ := l
  exact ⟨k _ _ hx, ⟨es, n, k _ _ hd, hr⟩, k _ _ hio, ⟨es2, n2, k _ _ hdio, hr2⟩, ⟨k1, k _ _ hpb⟩, ⟨k2, k _ _ hfs⟩⟩

/-- list(lex), the words -/
theorem list_ok {ws : List (List Nat)} {st : LS} {Q E : Value → Shared → Prop} (Bs : Base w mg mb b₀) (sy : b₀.StaysIn s.heap) (hroom : A.depth < 830) (hh : A.handled = none) (hfr : A.frames = some outer) (hd0 : b₀.get? d = none) (hdio0 : b₀.get? dio = none) (hne : dio ≠ d) (hfp : ∀ b ∈ [d, dio], b ∉ frA outer)
    (hlen : buf.length ≤ 100000) (hal : ∀ c ∈ buf, c ∈ alpha) (hst : lsOk st 32) (ht : TokS buf st ws) (F : Fr g L s.heap m) (syg : b₀.StaysIn g) (ff : s.heap.FunFrames b₀ outer) (lx : LexAt w x d io dio pb fs st buf 0 s.heap)
    (post : ∀ S s' us c', SameRest s s' → KeptF outer [d, dio] s.heap s'.heap → s.heap.get? S = none → Sims us (ws.map MV.str) → s'.heap.get? S = some (lstObj us c') → Q (.ref S) s') :
    wpAny (model PG w) A (call (.type "list") [.ref x]) Q E s := by
  obtain ⟨es, n, hd, hr⟩ := lx.hd
  refine list_start Bs sy hroom F syg lx.hx hd fun S s₁ c hs1 hk1 hSn hSe hS1 => ?_
  have nost : ∀ b o, s.heap.get? b = some o → b ≠ S := fun b o e q => by rw [q, hSn] at e; cases e
  obtain ⟨es2, n2, hdio, hr2⟩ := lx.hdio
  have hS0 : b₀.get? S = none := by
    cases e : b₀.get? S with
    | none => rfl
    | some o => exact absurd (sy _ _ e) (by rw [hSn]; exact fun q => nomatch q)
  refine extend_loop (A := A.in1) (outer := outer) Bs (by show A.depth < 840; omega) hh hfr hd0 hdio0 hne hfp hS0
    (fun q => by obtain ⟨_, o, ho, _⟩ := ff.mem q; exact nost _ _ ho rfl)
    (fun q => by rcases List.mem_cons.mp q with q | q
                 · exact nost _ _ hd q.symm
                 · exact nost _ _ hdio (List.mem_singleton.mp q).symm)
    hlen hal buf st ws ht s₁ 0 [] c hst (Nat.zero_le _) rfl (fun b o e => hk1 _ _ (sy _ _ e)) ((KeptF.of (fp := []) fun b o e _ => hk1 b o e).frames (fun _ q => nomatch q) ff) (lx.keeps hk1) hS1 (Nat.zero_le _) fun s' us c' hs' hk' hus hS' => ?_
  refine ⟨rfl, post S s' us c' (hs1.trans hs') ?_ hSn hus hS'⟩
  refine ⟨fun b o e p q => hk'.old b o (hk1 b o e) (fun z => ?_) q, fun b o e p q => hk'.upto b o (hk1 b o e) (fun z => ?_) q⟩
  all_goals
    rcases List.mem_cons.mp z with rfl | z
    · exact p (.head _)
    rcases List.mem_cons.mp z with rfl | z
    · exact p (.tail _ (.head _))
    · exact nost _ _ e (List.mem_singleton.mp z)

/-- list(lex), refused -/
theorem list_bad {bs : Heap} {st : LS} {Q E : Value → Shared → Prop} (Bs : Base w mg mb b₀) (sy : b₀.StaysIn s.heap) (hroom : A.depth < 830) (hh : A.handled = none) (hfr : A.frames = some outer) (hd0 : b₀.get? d = none) (hdio0 : b₀.get? dio = none) (hne : dio ≠ d) (hfp : ∀ b ∈ [d, dio], b ∉ frA outer)
    (hbs : ∀ b ∈ [d, dio], bs.get? b = none) (sb : bs.StaysIn s.heap)
    (hlen : buf.length ≤ 100000) (hal : ∀ c ∈ buf, c ∈ alpha) (hst : lsOk st 32) (ht : TokB buf st) (F : Fr g L s.heap m) (syg : b₀.StaysIn g) (ff : s.heap.FunFrames bs outer) (lx : LexAt w x d io dio pb fs st buf 0 s.heap)
    (post : ∀ e s', SameRest s s' → FlyX bs outer e (.type "ValueError") [d, dio] s.heap s'.heap → E (.ref e) s') :
    wpAny (model PG w) A (call (.type "list") [.ref x]) Q E s := by
  obtain ⟨es, n, hd, hr⟩ := lx.hd
  refine list_start Bs sy hroom F syg lx.hx hd fun S s₁ c hs1 hk1 hSn hSe hS1 => ?_
  have nost : ∀ b o, s.heap.get? b = some o → b ≠ S := fun b o e q => by rw [q, hSn] at e; cases e
  obtain ⟨es2, n2, hdio, hr2⟩ := lx.hdio
  have non : ∀ {hp : Heap}, hp.StaysIn s.heap → hp.get? S = none := fun {hp} sy => by
    cases e : hp.get? S with
    | none => rfl
    | some o => exact absurd (sy _ _ e) (by rw [hSn]; exact fun q => nomatch q)
  refine extend_bad (A := A.in1) (outer := outer) (bs := bs) Bs (by show A.depth < 840; omega) hh hfr hd0 hdio0 hne hfp (non sy)
    (fun q => by obtain ⟨_, o, ho, _⟩ := ff.mem q; exact nost _ _ ho rfl)
    (fun q => by rcases List.mem_cons.mp q with q | q
                 · exact nost _ _ hd q.symm
                 · exact nost _ _ hdio (List.mem_singleton.mp q).symm)
    (fun b hb => by
      rcases List.mem_cons.mp hb with rfl | z
      · exact hbs _ (.head _)
      rcases List.mem_cons.mp z with rfl | z
      · exact hbs _ (.tail _ (.head _))
      · rw [List.mem_singleton.mp z]; exact non sb)
    hlen hal buf st ht s₁ 0 [] c hst (Nat.zero_le _) rfl (fun b o e => hk1 _ _ (sy _ _ e)) (fun b o e => hk1 _ _ (sb _ _ e)) ((KeptF.of (fp := []) fun b o e _ => hk1 b o e).frames (fun _ q => nomatch q) ff) (lx.keeps hk1) hS1 (Nat.zero_le _) fun e s' hs' hf => ?_
  refine post e s' (hs1.trans hs') ⟨hf.1, fun b o e p q => hf.2 b o (hk1 b o e) (fun z => ?_) q⟩
  rcases List.mem_cons.mp z with rfl | z
  · exact p (.head _)
  rcases List.mem_cons.mp z with rfl | z
  · exact p (.tail _ (.head _))
  · exact nost _ _ e (List.mem_singleton.mp z)
end
end Mine
end -- E6
section -- G1
open PySem.Builtin
set_option maxRecDepth 100000
namespace Mine
theorem mro_deq : mroOf (.type "collections.deque") = pure [.type "collections.deque", .type "object"] := by rw [mroOf_type]; kernel_rfl
theorem lookup_deq_new : typeLookup (.type "collections.deque") "__new__" = pure (some (.builtin "collections.deque.__new__")) := by rw [typeLookup_type, builtinLookup_eq_fast]; kernel_rfl
theorem slot_deq_init : Slot "collections.deque" "__init__" "collections.deque.__init__" :=
  .of (owner := "collections.deque") (n := "__init__") (by rw [typeLookup_type, builtinLookup_eq_fast]; kernel_rfl) (by decide +kernel) (by decide +kernel) (by decide +kernel)
    (by first | exact .inl (by decide +kernel) | exact .inr (by decide +kernel)) (by rw [isSubtype_type]; kernel_rfl)
theorem called_deq : TypeCalled "collections.deque" "collections.deque.__new__" "collections.deque.__init__" :=
  ⟨by decide +kernel, by decide +kernel, ⟨_, _, mro_deq⟩, madeBy_type mro_deq lookup_deq_new (by decide +kernel), by decide +kernel, by rw [isSubtype_type]; kernel_rfl, slot_deq_init⟩
theorem typeCall_deq : checkTypeCall "collections.deque" ⟨[], []⟩ = pure () := by kernel_rfl
theorem newCall_deq : checkBuiltinCall "collections.deque.__new__" ⟨[.type "collections.deque"], []⟩ = pure () := by kernel_rfl
theorem entry_deq_new : entryFor table "collections.deque.__new__" = some Builtin.«collections.deque.__new__» := entryFor_of_tree (by kernel_rfl)
theorem entry_deq_init : entryFor table "collections.deque.__init__" = some Builtin.«collections.deque.__init__» := entryFor_of_tree (by kernel_rfl)
theorem plain_deq_new : plainId "collections.deque.__new__" = true := by decide +kernel
theorem args_deq_init (a : Value) : argsOk "collections.deque.__init__" ⟨[a], []⟩ := by unfold argsOk; kernel_rfl
theorem sub_deq_self : isSubtype (.type "collections.deque") (.type "collections.deque") = pure true := by rw [isSubtype_type]; kernel_rfl
theorem dict_deq : typeHasDict (.type "collections.deque") = false := by kernel_rfl
section
variable {prog : Program} {w : World} {A : Around} {E : Value → Shared → Prop} {s : Shared}
theorem code_deq_new {Q₁ : Value → Shared → Prop}
    (h : Q₁ (.ref s.heap.objs.size) { s with heap := s.heap.push (deqObj 0) }) :
    codeAny (model prog w) A (.call (.builtin "collections.deque.__new__") ⟨[.type "collections.deque"], []⟩) (wants Q₁ E) s := by
  refine codeAny_of_tree ?_
  show wpAny _ A.in1 (do checkBuiltinCall "collections.deque.__new__" ⟨[.type "collections.deque"], []⟩; again (.builtin "collections.deque.__new__" ⟨[.type "collections.deque"], []⟩)) _ _ s
  refine wpAny_bind (wpAny_of_eq newCall_deq (wpAny_pure ⟨plainId_quiet plain_deq_new _, codeAny_builtin entry_deq_new ?_⟩))
  rw [Around.under_plainId plain_deq_new _]
  unfold Builtin.«collections.deque.__new__» Deque.newArgs Deque.ty Deque.new
  have hsub := sub_deq_self
  obtain ⟨hp, g, d, tk, os⟩ := s
  dsimp only
  wp_walk
  exact h

theorem deque_c {Q : Value → Shared → Prop}
    (h : ∀ a s', SameRest s s' → s.heap.StaysIn s'.heap → s.heap.get? a = none → s'.heap.get? a = some (deqObj 0) → Q (.ref a) s') :
    wpAny (model prog w) A (call (.type "collections.deque") []) Q E s := by
  refine callType_codes (Q₁ := fun obj s₁ => obj = .ref s.heap.objs.size ∧ s₁ = { s with heap := s.heap.push (deqObj 0) }) called_deq typeCall_deq entry_deq_init
    (code_deq_new ⟨rfl, rfl⟩) fun obj s₁ h₁ => ?_
  obtain ⟨rfl, rfl⟩ := h₁
  have hS : (s.heap.push (deqObj 0)).get? s.heap.objs.size = some (deqObj 0) := Heap.get?_push_size _ rfl
  refine ⟨⟨_, hS, rfl⟩, args_deq_init _, ?_⟩
  show wpAny _ A.in1.in1 (setField (.ref s.heap.objs.size) 0 .none >>= fun _ => Deque.clear (.ref s.heap.objs.size) >>= fun _ => ret .none) _ _ _
  refine wpAny_bind (wpAny_setField hS rfl (by decide) ?_)
  have hS1 := Heap.get?_update_self (Obj.mapFields (·.setIfInBounds 0 Value.none)) hS rfl
  unfold Deque.clear Deque.items
  refine wpAny_bind (wpAny_bind (wpAny_bind (wpAny_fieldsOf hS1 rfl (wpAny_pure ?_))))
  rw [if_neg (by decide)]
  refine (wpAny_pure (wpAny_pure ⟨rfl, h _ _ ⟨rfl, rfl, rfl⟩ (fun b o e => (Heap.get?_update_other _ _ (Ne.symm (Nat.ne_of_lt (Heap.lt_size e)))).trans (Heap.get?_push_of_some _ e)) (Heap.get?_none_of_le (Nat.le_refl _)) hS1⟩))
end
end Mine
end -- G1
section -- G2
set_option maxRecDepth 100000
set_option maxHeartbeats 4000000
namespace Mine

/-- a tree that looks at the written part of the heap and makes objects -/
noncomputable def runG {α : Type} (K : Frag) : Nat → List Addr → Sem α → Option α
  | 0, _, _ => none
  | _ + 1, _, .pure a => some a
  | n + 1, fr, .rule _ k => runG K n fr (k ())
  | n + 1, fr, .at _ k => runG K n fr (k ())
  | n + 1, fr, .point _ k => runG K n fr (k ())
  | n + 1, fr, .load a _ k => match K.lookup a with
    | some o => runG K n fr (k o)
    | none => none
  | n + 1, fr, .alloc _ k => match fr with
    | a :: r => runG K n r (k a)
    | [] => none
  | _ + 1, _, _ => none
theorem runG_sound {α : Type} {K : Frag} {M : Model} {A : Around} {E : Value → Shared → Prop} : ∀ (n m : Nat) (t : Sem α) (val : List Addr → α) {s : Shared} {Q : α → Shared → Prop}, K.In s.heap →
    (∀ fr, fr.length = m → runG K n fr t = some (val fr)) → (∀ fr s', fr.length = m → SameRest s s' → s.heap.StaysIn s'.heap → s.heap.objs.size ≤ s'.heap.objs.size → Q (val fr) s') → wpAny M A t Q E s := by
  intro n
  induction n with
  | zero => intro m t val s Q X h hq; have := h (List.replicate m 0) List.length_replicate; cases this
  | succ n ih =>
    intro m t val s Q X h hq
    have hr := h (List.replicate m 0) List.length_replicate
    cases t with
    | pure b => cases hr; exact wpAny_pure (hq _ _ List.length_replicate (SameRest.refl _) (fun _ _ e => e) (Nat.le_refl _))
    | rule _ k => exact fun Γ p hΓ => ih m (k ()) val X h hq Γ p hΓ
    | «at» q k => exact fun Γ _ hΓ => ih m (k ()) val X h hq Γ q hΓ
    | point _ k => exact fun Γ p hΓ => ih m (k ()) val X h hq Γ p hΓ
    | load b q k =>
      cases e : K.lookup b with
      | none => unfold runG at hr; rw [e] at hr; cases hr
      | some o =>
        refine wpAny_bind (m := loadPart b q) (f := k) (wpAny_loadPart (X _ _ e) (ih m (k o) val X (fun fr hf => ?_) hq))
        have := h fr hf
        unfold runG at this
        rw [e] at this
        exact this
    | alloc o k =>
      cases m with
      | zero => unfold runG at hr; cases hr
      | succ m =>
        refine wpAny_bind (m := PySem.alloc o) (f := k) (wpAny_alloc (ih m (k s.heap.objs.size) (fun fr => val (s.heap.objs.size :: fr)) (fun b o e => Heap.get?_push_of_some _ (X b o e)) (fun fr hf => h (s.heap.objs.size :: fr) (by rw [List.length_cons, hf])) fun fr s' hf hs hk hz => ?_))
        have hz' : (s.heap.push o).objs.size = s.heap.objs.size + 1 := Heap.size_push ..
        exact hq _ _ (by rw [List.length_cons, hf]) ⟨hs.gens, hs.drawn, hs.os⟩ (fun b o e => hk b o (Heap.get?_push_of_some _ e)) (by dsimp only at hz; omega)
    | _ => cases hr

/-- a def's call, the arguments laid by way of new objects -/
theorem enterG {w : World} {mg mb : Str → Option Value} {b₀ : Heap} {A : Around} {s : Shared} {fd : FuncData} {f : Addr} {R : Result → Shared → Prop} {args : Args} {m : Nat} {binds : List Addr → List (Str × Value)}
    (Bs : Base w mg mb b₀) (st : b₀.StaysIn s.heap) (ff : FnFacts w f fd) (hroom : A.depth < recursionLimit) (hbind : ∀ fr, fr.length = m → runG (KK w) 200 fr (bindArgs fd args) = some (binds fr))
    (hloc : ∀ fr, fr.length = m → ((binds fr).all fun y => decide (fd.scope.names.lookup y.1 = some .local)) = true)
    (h : ∀ L s₁ fr, fr.length = m → SameRest s s₁ → s.heap.StaysIn s₁.heap → Fr s.heap L s₁.heap (fun y => (binds fr).reverse.lookup y) → s.heap.get? L = none → fd.scope.kind = .function →
      wpAny (model PG w) (A.deeper (envAt fd L f)) (execs (bodyOf fd) (envAt fd L f)) (fun fl s' => R (.ok (.ret (match fl with | .ret v => v | _ => .none))) s')
        (fun e s' => wpAny (model PG w) (A.deeper (envAt fd L f)) (leaving (envAt fd L f) e) (fun _ s'' => R (.error e) s'') (fun e' s'' => R (.error e') s'') s') s₁) :
    codeAny (model PG w) A (.call (.ref f) args) R s := by
  have ok := ff.ok
  unfold fnOk at ok
  simp only [Bool.and_eq_true, beq_iff_eq, Bool.not_eq_true', List.isEmpty_iff] at ok
  obtain ⟨⟨⟨⟨⟨⟨⟨⟨o1, o2⟩, o3⟩, o4⟩, o5⟩, o6⟩, o7⟩, o8⟩, o9⟩ := ok
  have X := (Bs.keeps st).X
  have hb : fd.body = .stmts (bodyOf fd) := by
    unfold isStmts at o1
    unfold bodyOf
    cases q : fd.body with
    | stmts b => rfl
    | expr e => rw [q] at o1; cases o1
  have hcell : ∀ x ∈ fd.scope.names, x.2 ≠ .cell := fun x hx => by
    have := List.all_eq_true.mp o9 x hx
    simpa using this
  refine codeAny_call_function hroom (X _ _ ff.here) rfl o7 o8 hb (codeRec_of X o5) ?_
  refine runG_sound 200 m _ binds X hbind fun fr s' hf hs hk hz => ?_
  refine wpAny_newFunctionEnv hcell (locs (hloc fr hf)) (fun h₀ hns₀ hsb₀ => ⟨((Bs.keeps st).nl.keeps hk).fresh _ hsb₀, codeAny_func ?_⟩) o6
  have hk2 : s'.heap.StaysIn h₀ := fun b o e => hsb₀.extBut b o (Nat.ne_of_lt (Heap.lt_size e)) (Heap.get?_push_of_some _ e)
  have z := h s'.heap.objs.size { s' with heap := h₀, toks := s'.toks + (binds fr).length } fr hf (hs.put _ _) (fun b o e => hk2 b o (hk b o e)) ⟨hns₀, fun b o e => hk2 b o (hk b o e), hz⟩ ?_ o6
  · rw [← callEnv_eq o2 o3 o4] at z
    exact z
  · cases q : s.heap.get? s'.heap.objs.size with
    | none => rfl
    | some o => exact absurd (Heap.lt_size (hk _ _ q)) (Nat.lt_irrefl _)
end Mine
end -- G2
section -- G3
set_option maxRecDepth 100000
set_option maxHeartbeats 4000000
namespace Mine
open Builtin Builtin.ObjectAttr

theorem sb605 (w : World) : runK (KK w) 100 (Bind.staticBase (.ref 605)) = some (.type "object") := by kernel_rfl
theorem mb605 (w : World) : runK (KK w) 100 (Bind.madeBy (.ref 605)) = some none := by kernel_rfl
theorem mro605 (w : World) : runK (KK w) 100 (mroOf (.ref 605)) = some [.ref 605, .ref 128, .ref 101, .type "object"] := by kernel_rfl
theorem looksK {α : Type} {K : Frag} {M : Model} {h : Heap} {t : Sem α} {r : α} (X : K.In h) (n : Nat) (e : runK K n t = some r) : Looks M h t r := fun _ _ _ _ k q => runK_sound (X.keeps k) n t r e q

/-- the same, and what was made -/
noncomputable def runM {α : Type} (K : Frag) : Nat → List Addr → Sem α → Option (α × List Obj)
  | 0, _, _ => none
  | _ + 1, _, .pure a => some (a, [])
  | n + 1, fr, .rule _ k => runM K n fr (k ())
  | n + 1, fr, .at _ k => runM K n fr (k ())
  | n + 1, fr, .point _ k => runM K n fr (k ())
  | n + 1, fr, .load a _ k => match K.lookup a with
    | some o => runM K n fr (k o)
    | none => none
  | n + 1, fr, .alloc o k => match fr with
    | a :: r => match runM K n r (k a) with
      | some (v, os) => some (v, o :: os)
      | none => none
    | [] => none
  | _ + 1, _, _ => none
theorem runM_sound {α : Type} {K : Frag} {M : Model} {A : Around} {E : Value → Shared → Prop} : ∀ (n m : Nat) (t : Sem α) (val : List Addr → α) (objs : List Addr → List Obj) {s : Shared} {Q : α → Shared → Prop}, K.In s.heap →
    (∀ fr, fr.length = m → runM K n fr t = some (val fr, objs fr)) → Q (val (List.range' s.heap.objs.size m)) { s with heap := (objs (List.range' s.heap.objs.size m)).foldl Heap.push s.heap } → wpAny M A t Q E s := by
  intro n
  induction n with
  | zero => intro m t val objs s Q X h hq; have := h (List.replicate m 0) List.length_replicate; cases this
  | succ n ih =>
    intro m t val objs s Q X h hq
    have hr := h (List.range' s.heap.objs.size m) (by simp)
    cases t with
    | pure b =>
      unfold runM at hr
      obtain ⟨e1, e2⟩ := Prod.mk.inj (Option.some.inj hr)
      rw [← e1, ← e2] at hq
      exact wpAny_pure hq
    | rule _ k => exact fun Γ p hΓ => ih m (k ()) val objs X h hq Γ p hΓ
    | «at» q k => exact fun Γ _ hΓ => ih m (k ()) val objs X h hq Γ q hΓ
    | point _ k => exact fun Γ p hΓ => ih m (k ()) val objs X h hq Γ p hΓ
    | load b q k =>
      cases e : K.lookup b with
      | none => unfold runM at hr; rw [e] at hr; cases hr
      | some o =>
        refine wpAny_bind (m := loadPart b q) (f := k) (wpAny_loadPart (X _ _ e) (ih m (k o) val objs X (fun fr hf => ?_) hq))
        have := h fr hf
        unfold runM at this
        rw [e] at this
        exact this
    | alloc o k =>
      cases m with
      | zero => unfold runM at hr; cases hr
      | succ m =>
        have hh : ∀ fr, fr.length = m → runM K n fr (k s.heap.objs.size) = some (val (s.heap.objs.size :: fr), (objs (s.heap.objs.size :: fr)).tail) ∧ objs (s.heap.objs.size :: fr) = o :: (objs (s.heap.objs.size :: fr)).tail := by
          intro fr hf
          have := h (s.heap.objs.size :: fr) (by rw [List.length_cons, hf])
          unfold runM at this
          cases z : runM K n fr (k s.heap.objs.size) with
          | none => simp only [z] at this; cases this
          | some p =>
            simp only [z] at this
            obtain ⟨e1, e2⟩ := Prod.mk.inj (Option.some.inj this)
            rw [← e2, ← e1]
            exact ⟨rfl, rfl⟩
        refine wpAny_bind (m := PySem.alloc o) (f := k) (wpAny_alloc (ih m (k s.heap.objs.size) (fun fr => val (s.heap.objs.size :: fr)) (fun fr => (objs (s.heap.objs.size :: fr)).tail) (fun b o e => Heap.get?_push_of_some _ (X b o e)) (fun fr hf => (hh fr hf).1) ?_))
        have hz : (s.heap.push o).objs.size = s.heap.objs.size + 1 := Heap.size_push ..
        have h2 := (hh (List.range' (s.heap.objs.size + 1) m) (by simp)).2
        rw [List.range'_succ] at hq
        rw [h2] at hq
        dsimp only
        rw [hz]
        exact hq
    | _ => cases hr

theorem on605 (w : World) (a b : Addr) : runM (KK w) 400 [a, b] (Builtin.«object.__new__» ⟨[.ref 605], []⟩) = some (.done (.ret (.ref b)), [emptyDict, instObj 605 a]) := by kernel_rfl
theorem onc605 (w : World) : runK (KK w) 400 (checkBuiltinCall "object.__new__" ⟨[.ref 605], []⟩) = some () := by kernel_rfl
end Mine
end -- G3
section -- G4
set_option maxRecDepth 100000
set_option maxHeartbeats 4000000
namespace Mine
open Builtin Builtin.ObjectAttr
section
variable {w : World} {mg mb : Str → Option Value} {b₀ : Heap} {A : Around} {s : Shared} {R : Result → Shared → Prop}

theorem onew_io (X : (KK w).In s.heap) (hq : R (.ok (.ret (.ref (s.heap.objs.size + 1)))) { s with heap := (s.heap.push emptyDict).push (instObj 605 s.heap.objs.size) }) :
    codeAny (model PG w) A (.call (.builtin "object.__new__") ⟨[.ref 605], []⟩) R s := by
  have F := PySem.F.objNew
  refine codeAny_call_builtin_code (Code.quiet_builtin _ F.quiet) ((looksK X 400 (onc605 w)).here ?_)
  refine codeAny_builtin F.entry ?_
  refine runM_sound 400 2 _ (fun fr => .done (.ret (.ref (fr[1]?.getD 0)))) (fun fr => [emptyDict, instObj 605 (fr[0]?.getD 0)]) X (fun fr hf => ?_) hq
  match fr, hf with
  | [a, b], _ => exact on605 w a b

noncomputable def fNew : FuncData := fdAt 98
theorem ff_new (w : World) : FnFacts w 98 fNew := ⟨by kernel_rfl, by kernel_rfl⟩
theorem binds_new (w : World) (v : Value) (a b : Addr) : runG (KK w) 200 [a, b] (bindArgs fNew ⟨[.ref 605, v], []⟩) = some [(sN "cls", .ref 605), (sN "args", .ref a), (sN "kwargs", .ref b)] := by kernel_rfl
noncomputable abbrev PS (a b c d : Nat) : Pos := ⟨a, b, c, d⟩
noncomputable abbrev wallNew : List Stmt := [.Expr (.Call (.Name (sN "_wall") (PS 66 12 66 17)) [.Constant (.int 3) 0 (PS 66 18 66 19)] [] (PS 66 12 66 20)) (PS 66 12 66 20)]
theorem body_new : bodyOf fNew = [.If (.BoolOp .And [.Compare (.Name (sN "cls") (PS 65 11 65 14)) [.IsNot] [.Name (sN "BytesIO") (PS 65 22 65 29)] (PS 65 11 65 29), .Compare (.Name (sN "cls") (PS 65 34 65 37)) [.IsNot] [.Name (sN "StringIO") (PS 65 45 65 53)] (PS 65 34 65 53)] (PS 65 11 65 53)) wallNew [] (PS 65 8 66 20),
    .Return (some (.Call (.Attribute (.Name (sN "object") (PS 67 15 67 21)) (sN "__new__") (PS 67 15 67 29)) [.Name (sN "cls") (PS 67 30 67 33)] [] (PS 67 15 67 34))) (PS 67 8 67 34)] := by kernel_rfl

theorem is605_358 {M : Model} {h : Heap} (X : (KK w).In h) : Looks M h (isSame (.ref 605) (.ref 358)) false := looksK X 50 (by kernel_rfl)
theorem is605 {M : Model} {h : Heap} (X : (KK w).In h) : Looks M h (isSame (.ref 605) (.ref 605)) true := looksK X 50 (by kernel_rfl)

theorem isNot_ref {M : Model} {E : Value → Shared → Prop} {a b : Addr} {r : Bool} {Q : Value → Shared → Prop} (l : Looks M s.heap (isSame (.ref a) (.ref b)) r) (q : Q (.bool (!r)) s) : wpAny M A (compareOp .IsNot (.ref a) (.ref b)) Q E s := by
  show wpAny _ _ (do return .bool (!(← isSame _ _))) Q E s
  exact wpAny_bind (l.here (wpAny_pure q))

/-- io's object, empty -/
noncomputable def NewIO (s s' : Shared) (x d : Addr) : Prop :=
  SameRest s s' ∧ s.heap.StaysIn s'.heap ∧ s.heap.get? x = none ∧ s.heap.get? d = none ∧ x ≠ d ∧ s'.heap.get? x = some (instObj 605 d) ∧ s'.heap.get? d = some emptyDict

theorem new98 {v : Value} (Bs : Base w mg mb b₀) (sy : b₀.StaysIn s.heap) (hroom : A.depth < recursionLimit) (post : ∀ x d s', NewIO s s' x d → R (.ok (.ret (.ref x))) s') :
    codeAny (model PG w) A (.call (.ref 98) ⟨[.ref 605, v], []⟩) R s := by
  refine enterG (m := 2) (binds := fun fr => [(sN "cls", .ref 605), (sN "args", .ref (fr[0]?.getD 0)), (sN "kwargs", .ref (fr[1]?.getD 0))]) Bs sy (ff_new w) hroom (fun fr hf => ?_) (fun fr hf => ?_) fun L s₁ fr hf hs hk F hL hkd => ?_
  · match fr, hf with
    | [a, b], _ => exact binds_new w v a b
  · match fr, hf with
    | [a, b], _ => kernel_rfl
  have Bg := Bs.keeps sy
  have X1 := (Bg.keeps hk).X
  have nm : ∀ {tk : Nat} {p : Pos} {Q : Value → Shared → Prop} {E : Value → Shared → Prop}, Q (.ref 605) { s₁ with toks := tk } → wpAny (model PG w) (A.deeper (envAt fNew L 98)) (eval (.Name (sN "cls") p) (envAt fNew L 98)) Q E { s₁ with toks := tk } := fun {tk p Q E} q =>
    ld (s := { s₁ with toks := tk }) F (v := .ref 605) (by kernel_rfl) q hkd (by kernel_rfl) (by kernel_rfl)
  rw [body_new]
  refine wpAny_execs_cons (wpAny_If (wpAny_isTrue_BoolOp (wpAny_allTrue_And_cons (wpAny_isTrue_Compare1 (nm (gF_name Bg F hkd (v := .ref 358) (by kernel_rfl) (isNot_ref (is605_358 X1) (wpAny_truthy_bool ?_))))))))
  rw [if_pos (by rfl)]
  refine wpAny_allTrue_And_cons (wpAny_isTrue_Compare1 (nm (gF_name Bg F hkd (v := .ref 605) (by kernel_rfl) (isNot_ref (is605 X1) (wpAny_truthy_bool ?_)))))
  rw [if_neg (by decide), if_neg (by decide)]
  refine wpAny_execs_nil ?_
  refine wpAny_execs_cons (wpAny_Return_some (wp_method (baseOk _ _ rfl) rfl rfl (gF_name Bg F hkd (v := .type "object") (by kernel_rfl) (method_type (v := .builtin "object.__new__") (K := KK w) F Bg.X (by kernel_rfl) (by decide +kernel) (by kernel_rfl) (by kernel_rfl) ?_))))
  have hLt : L < s₁.heap.objs.size := by obtain ⟨o, _, _, e, _⟩ := F.ns; exact Heap.lt_size e
  refine Calls.callWith_builtin rfl (Calls.evalArgs_plain (Calls.spliced_cons (nm (Calls.spliced_nil (wpAny_call (onew_io X1 ?_))))))
  refine post _ _ _ ⟨hs.put _ _, fun b o e => Heap.get?_push_of_some _ (Heap.get?_push_of_some _ (hk b o e)), ?_, ?_, by show s₁.heap.objs.size + 1 ≠ s₁.heap.objs.size; omega, ?_, ?_⟩
  · exact Heap.get?_none_of_le (Nat.le_succ_of_le (Nat.le_trans F.above (Nat.le_of_lt hLt)))
  · exact Heap.get?_none_of_le (Nat.le_trans F.above (Nat.le_of_lt hLt))
  · show ((s₁.heap.push emptyDict).push (instObj 605 s₁.heap.objs.size)).get? (s₁.heap.objs.size + 1) = _
    heap_get
  · exact Heap.get?_push_of_some _ (Heap.get?_push_at rfl rfl)
end
end Mine
end -- G4
section -- G5
set_option maxRecDepth 100000
set_option maxHeartbeats 4000000
namespace Mine
open Builtin Builtin.ObjectAttr
section
variable {w : World} {mg mb : Str → Option Value} {b₀ : Heap} {A : Around} {s : Shared} {R : Result → Shared → Prop}
theorem cls605 (w : World) : ∃ oc od cd sl, (KK w).lookup 605 = some ⟨oc, od, .cls cd, sl⟩ := by
  have : (match (KK w).lookup 605 with | some ⟨_, _, .cls _, _⟩ => true | _ => false) = true := by kernel_rfl
  split at this
  · rename_i e; exact ⟨_, _, _, _, e⟩
  · cases this

theorem make_io {v : Value} (Bs : Base w mg mb b₀) (sy : b₀.StaysIn s.heap) (hroom : (A.under (.builtin "type.__call__" ⟨[.ref 605, v], []⟩)).depth < recursionLimit)
    (h : ∀ x d s', NewIO s s' x d → codeAny (model PG w) (A.under (.builtin "type.__call__" ⟨[.ref 605, v], []⟩)) (.call (.ref 375) ⟨[.ref x, v], []⟩) (InitBack x R) s') : codeAny (model PG w) A (.call (.ref 605) ⟨[v], []⟩) R s := by
  have X := (Bs.keeps sy).X
  obtain ⟨oc, od, cd, sl, e⟩ := cls605 w
  have hC := X _ _ e
  have call : Looks (model PG w) s.heap (specialOf (.ref 605) "__call__") (some (.builtin "type.__call__")) := looksK X 50 (by kernel_rfl)
  have typ : Looks (model PG w) s.heap (isInstance (.ref 605) (.type "type")) true := looksK X 50 (by kernel_rfl)
  have mro : Looks (model PG w) s.heap (mroOf (.ref 605)) _ := looksK X 100 (mro605 w)
  have made : Looks (model PG w) s.heap (Bind.madeBy (.ref 605)) none := looksK X 100 (mb605 w)
  refine codeAny_of_tree ?_
  show wpAny _ _ (callAny (.ref 605) _) _ _ _
  refine nd_load hC ?_
  show wpAny _ _ (callAny.viaDunder (.ref 605) _) _ _ _
  unfold callAny.viaDunder
  refine wpAny_bind (call.here ?_)
  dsimp only
  rw [tc_bind]
  refine wpAny_bind (wpAny_pure (wpAny_bind (wpAny_pure ?_)))
  refine wpAny_pure (a := Fin.again (.call (.builtin "type.__call__") ⟨[.ref 605, v], []⟩)) (And.intro rfl ?_)
  refine codeAny_call_builtin_at (Code.quiet_builtin _ (by decide +kernel)) entry_typeCall (check_slot tc_kind tc_split typ (tc_args _ _ _) ?_)
  unfold Builtin.«type.__call__»
  obtain ⟨hp, g, d, t, os⟩ := s
  dsimp only at *
  have getn : ∀ {A : Around} {Q : Value → Shared → Prop} {E : Value → Shared → Prop} {t : Nat}, Q (.ref 98) ⟨hp, g, d, t + 1, os⟩ → wpAny (model PG w) A (getAttr (.ref 605) "__new__") Q E ⟨hp, g, d, t, os⟩ := fun {A Q E t} q =>
    cls_bind (s := ⟨hp, g, d, t, os⟩) (K := KK w) (mc := .type "type") (g := .builtin "staticmethod.__get__") (a := .ref 102) (obj := .none) (tp := .ref 605) X (by kernel_rfl) (by kernel_rfl)
      (wpAny_call (sm_get (K := KK w) (s := ⟨hp, g, d, t + 1, os⟩) (f := .ref 98) (rest := []) X (by kernel_rfl) (handed_on (by kernel_rfl) q)))
  repeat (first | with_reducible refine getn ?_ | simp only [List.isEmpty_cons, Bool.false_eq_true, if_false] | with_reducible refine wpAny_call ?_ | lk)
  refine new98 Bs sy hroom fun x d' s₁ hn => ?_
  obtain ⟨hs, hk, hx0, hd0, hne, hx, hdd⟩ := hn
  obtain ⟨hp1, g1, d1, t1, os1⟩ := s₁
  dsimp only at hk hx hdd
  have X1 := X.keeps hk
  have t1' : Looks (model PG w) hp1 (typeOf (.ref x)) (.ref 605) := (Looks.ld hx).andThen .now
  have s1 : Looks (model PG w) hp1 (isSubtype (.ref 605) (.ref 605)) true := looksK X1 50 (by kernel_rfl)
  have i1 : Looks (model PG w) hp1 (typeLookup (.ref 605) "__init__") (some (.ref 375)) := looksK X1 100 (by kernel_rfl)
  have b1 : Looks (model PG w) hp1 (bindSpecial (.ref 375) (.ref x)) (.ref 375, [.ref x]) := bind_fn X1 (.ref x) (by kernel_rfl)
  unfold isInstance callSpecial? specialOf
  repeat (first | with_reducible refine wpAny_call ?_ | lk)
  refine codeAny_mono (h x d' _ ⟨⟨hs.gens, hs.drawn, hs.os⟩, hk, hx0, hd0, hne, hx, hdd⟩) fun r s' z => ?_
  rcases r with e | (v | _ | _ | _) <;> first | exact z | exact z.elim | skip
  obtain ⟨rfl, z⟩ := z
  exact wpAny_pure (wpAny_pure z)
end
end Mine
end -- G5
section -- G6
set_option maxRecDepth 100000
set_option maxHeartbeats 4000000
namespace Mine
section
variable {w : World} {mg mb : Str → Option Value} {b₀ : Heap} {A : Around} {s : Shared} {fd : FuncData} {f : Addr} {R : Result → Shared → Prop}
/-- enterSelf, the arguments any that are laid so -/
theorem enterSelfA {η : Type} {x d C : Addr} {es : List DictEntry} {n : Nat} {att : Loc} {e₀ : η} {Led2 : η → List (Addr × Obj) → Prop} (args : Args) (names : List Str) {vs : List Value} {mvs : List MV} (asg oks : List Str) (own2 : List (Addr × Obj))
    (hookE : Expr → Loc → Loc × η → Option (MV × (Loc × η))) (hookS : Stmt → Loc → Loc × η → Option (Loc × (Loc × η))) (callV : Value → List MV → Loc × η → Option (MV × (Loc × η)))
    (Bs : Base w mg mb b₀) (st : b₀.StaysIn s.heap) (ff : FnFacts w f fd) (hroom : A.depth < recursionLimit) (hs : Sims vs mvs)
    (hb : runK (KK w) 100 (bindArgs fd args) = some ((selfN :: names).zip (.ref x :: vs))) (hn : namesOk fd.scope (selfN :: names) = true) (hasg : asgOk fd.scope asg = true)
    (hoks : (oks.all fun a => attOk (KK w) C a) = true) (hcls : clsOk (KK w) C = true)
    (hx : s.heap.get? x = some (instObj C d)) (hd : s.heap.get? d = some (dictOf es n)) (hd0 : b₀.get? d = none) (hr : AttRel w att es) (hlen : att.length ≤ 101)
    (hown : ∀ p ∈ own2, s.heap.get? p.1 = some p.2 ∧ b₀.get? p.1 = none) (hne : ∀ p ∈ own2, p.1 ≠ d) (hxo : x ∉ own2.map (·.1)) (hl2 : Led2 e₀ own2)
    (hooks : ∀ L, Base w mg mb (hideAll s.heap (d :: own2.map (·.1))) → b₀.StaysIn (hideAll s.heap (d :: own2.map (·.1))) → Hooks w (A.deeper (envAt fd L f)) (envAt fd L f) (RF s (hideAll s.heap (d :: own2.map (·.1))) (envAt fd L f) L (LedS w x d Led2)) hookE hookS callV)
    (h : ∀ L s₁, (∀ E, FaceOk (selfFace w fd.scope asg oks x hookE hookS callV) PG w (A.deeper (envAt fd L f)) (envAt fd L f) E (RF s (hideAll s.heap (d :: own2.map (·.1))) (envAt fd L f) L (LedS w x d Led2))) →
      RF s (hideAll s.heap (d :: own2.map (·.1))) (envAt fd L f) L (LedS w x d Led2) ((selfN :: names).zip (.val (.ref x) :: mvs)) (att, e₀) s₁ → s.heap.get? L = none → b₀.get? L = none →
      wpAny (model PG w) (A.deeper (envAt fd L f)) (execs (bodyOf fd) (envAt fd L f)) (fun fl s' => R (.ok (.ret (flowV fl))) s')
        (fun e s' => wpAny (model PG w) (A.deeper (envAt fd L f)) (leaving (envAt fd L f) e) (fun _ s'' => R (.error e) s'') (fun e' s'' => R (.error e') s'') s') s₁) :
    codeAny (model PG w) A (.call (.ref f) args) R s := by
  have hxd : x ≠ d := fun e => by rw [e, hd] at hx; cases hx
  refine enterF ((d, dictOf es n) :: own2) Bs st ff hroom (binds_run (Bs.keeps st) 100 hb) (namesOk_locs hn _) ?_ fun L h₁ F N stg hL hL0 hk => ?_
  · intro p hp
    rcases List.mem_cons.mp hp with rfl | hp
    · exact ⟨hd, hd0⟩
    · exact hown p hp
  · have l := locRel_init (env := envAt fd L f) (selfN :: names) (.ref x :: vs) (.val (.ref x) :: mvs) (namesOk_nodup hn) (.cons rfl hs) (namesOk_mem hn)
    have hself : fd.scope.names.lookup selfN = some .local := (namesOk_mem hn selfN (.head _)).1
    have hxg : (hideAll s.heap (d :: own2.map (·.1))).get? x = some (instObj C d) := hideAll_get _ hx fun q => by
      rcases List.mem_cons.mp q with q | q
      · exact hxd q
      · exact hxo q
    have hh := hooks L (Bs.keeps stg) stg
    refine wpAny_mono (h L _ (fun E => frameOk hk (selfHyp (qual := fd.qualname) (sc := fd.scope) (L := L) (f := f) (cd := fd.code) (s₀ := s) (Bs.keeps stg) hk hself hasg hoks hcls hxg hh.e hh.s hh.c)) ?_ hL hL0) (fun fl s' q => ?_) fun _ _ q => q
    · obtain ⟨v, hv, hsv, _⟩ := l selfN (.val (.ref x)) (by simp [List.zip_cons_cons])
      cases hsv
      exact ⟨⟨rfl, rfl, rfl⟩, _, _, F, N, l, hv, es, n, own2, rfl, hr, hlen, hne, hl2⟩
    · cases fl <;> exact q
end

noncomputable def fTrans : FuncData := fdAt 382
theorem ff_trans (w : World) : FnFacts w 382 fTrans := ⟨by kernel_rfl, by kernel_rfl⟩
noncomputable def fIoInit : FuncData := fdAt 375
theorem ff_ioInit (w : World) : FnFacts w 375 fIoInit := ⟨by kernel_rfl, by kernel_rfl⟩
theorem meth_trans (w : World) : methOk (KK w) 605 382 (sN "_StringIO__translated") = true := by kernel_rfl

section
variable {w : World} {mg mb : Str → Option Value} {b₀ : Heap} {A : Around} {s : Shared} {R : Result → Shared → Prop} {x d : Addr} {es : List DictEntry} {n : Nat} {buf : List Nat} {pos : Int}
theorem trans_c {t : Value} {l : List Nat} (Bs : Base w mg mb b₀) (st : b₀.StaysIn s.heap) (hroom : A.depth < recursionLimit) (ht : Sim t (.str l)) (hx : s.heap.get? x = some (instObj 605 d)) (hd : s.heap.get? d = some (dictOf es n)) (hd0 : b₀.get? d = none) (hr : AttRel w (ioAtt buf pos) es)
    (post : ∀ v s', Sim v (.str l) → OutS w s s' d [] (ioAtt buf pos) () (fun _ _ => True) → R (.ok (.ret v)) s') : codeAny (model PG w) A (.call (.ref 382) ⟨[.ref x, t], []⟩) R s := by
  refine enterSelf (η := Unit) (e₀ := ()) (Led2 := fun _ _ => True) [sN "s"] [sN "newline"] ioOks [] noE noS noC Bs st (ff_trans w) hroom (.cons ht .nil) (by kernel_rfl) (by kernel_rfl) (by kernel_rfl) (ioOks_ok w) (ioCls_ok w) hx hd hd0 hr (Nat.le_of_ble_eq_true rfl)
    (fun _ h => nomatch h) (fun _ h => nomatch h) (fun h => nomatch h) trivial (fun L _ _ => noHooks) fun L s₁ ok hR hL hL0 => ?_
  refine xrun (ok _) 20 (.ret (.str l)) [(selfN, .val (.ref x)), (sN "s", .str l), (sN "newline", .str [10])] (ioAtt buf pos, ()) [] (by kernel_rfl) (fun _ h => nomatch h) hR fun s' hR' fl hfl => ?_
  cases fl <;> first | exact hfl.elim | exact post _ _ hfl (hR'.outS rfl)

/-- a method of an own class, one local name handed in -/
theorem wp_meth1 {E : Value → Shared → Prop} {env : Env} {C f L : Addr} {g : Heap} {m : Str → Option Value} {att : Loc} {y name a : Str} {v : Value} {p p2 apos pos : Pos} {Q : Value → Shared → Prop} (hline : (apos.endLine == pos.line) = true)
    (hy : ∀ Q' : Value → Shared → Prop, Q' (.ref x) s → wpAny (model PG w) A (eval (.Name y p) env) Q' E s) (ha : ∀ Q' : Value → Shared → Prop, Q' v s → wpAny (model PG w) A (eval (.Name a p2) env) Q' E s) (F : Fr g L s.heap m) (X : (KK w).In g) (hx : s.heap.get? x = some (instObj C d)) (hd : s.heap.get? d = some (dictOf es n))
    (hr : AttRel w att es) (hm : methOk (KK w) C f name = true) (hl : att.lookup name = none) (h : codeAny (model PG w) A (.call (.ref f) ⟨[.ref x, v], []⟩) (Ret Q E) s) :
    wpAny (model PG w) A (eval (.Call (.Attribute (.Name y p) name apos) [.Name a p2] [] pos) env) Q E s := by
  unfold methOk at hm
  simp only [Bool.and_eq_true, beq_iff_eq] at hm
  obtain ⟨⟨⟨m1, m2⟩, m3⟩, m4⟩ := hm
  refine wp_method rfl hline rfl (hy _ (method_inst F X ⟨hx, rfl, rfl, hd⟩ m1 m2 m3 (hr.miss hl) ?_))
  refine callWith_K (K := KK w) X m4 (Calls.spliced_cons (ha _ (Calls.spliced_nil ⟨X.keeps F.keep, wpAny_call ?_⟩)))
  exact codeAny_mono h fun r s' q => q

noncomputable def initE : Expr → Loc → Loc × Unit → Option (MV × (Loc × Unit)) := fun ex loc e => (asMeth ex).bind fun c => (asName c.o).bind fun y => (as1 c.args).bind fun g => (asName g).bind fun z => cond (y == selfN && c.a == sN "_StringIO__translated" && c.line && (asIo e.1).isSome) ((loc.lookup z).bind fun v => (asStr v).map fun l => (.str l, e)) none
theorem initHooks (Bs : Base w mg mb b₀) (hroom : A.depth < 900) (L : Addr) (g : Heap) (Bg : Base w mg mb g) (st : b₀.StaysIn g) (hx : g.get? x = some (instObj 605 d)) (hd0 : b₀.get? d = none) :
    Hooks w A (envAt fIoInit L 375) (RF s g (envAt fIoInit L 375) L (LedS w x d (fun _ _ => True))) initE noS noC where
  s := fun _ h => (by cases h)
  c := fun _ h => (by cases h)
  e := fun {E loc e s₁ ex v e' Q} hR h hQ => by
    · refine bnd h fun c hc h => bnd h fun y hy h => bnd h fun g hg h => bnd h fun z hzn h => cnd h fun q h => bnd h fun v hz h => mpd h fun l hl h => ?_
      · · cases h
          obtain rfl := asMeth_eq hc
          obtain ⟨o, a, ap, args, p⟩ := c
          obtain ⟨yp, e0⟩ := asName_eq hy
          obtain ⟨zp, e1⟩ := asName_eq hzn
          have e2 := as1_eq hg
          have e3 := asStr_eq hl
          dsimp only at e0 e2 q
          subst e3 e1 e0 e2
          simp only [Bool.and_eq_true, beq_iff_eq] at q
          obtain ⟨⟨⟨rfl, rfl⟩, q3⟩, q4⟩ := q
          obtain ⟨att, u⟩ := e
          obtain ⟨⟨bf, ps⟩, hio⟩ := Option.isSome_iff_exists.mp q4
          obtain rfl := asIo_eq hio
          have hR' := hR
          obtain ⟨h1, m, own, F, N, lr, hm, es, n, rest, rfl, hr, hz', hd, h2⟩ := hR
          obtain ⟨vz, hvz, hsz, hkz, hdz⟩ := lr _ _ hz
          refine wp_meth1 (v := vz) q3 (fun Q' hq => ld F hm hq rfl rfl rfl) (fun Q' hq => ld F hvz hq rfl hkz hdz) F Bg.X (F.keep _ _ hx) (N _ (.head _)).1 hr (meth_trans w) (by kernel_rfl) ?_
          exact trans_c Bs (fun b' o e => F.keep b' o (st b' o e)) (by have : recursionLimit = 1000 := rfl; omega) hsz (F.keep _ _ hx) (N _ (.head _)).1 hd0 hr fun v s' hv ho => hQ _ _ hv (hR'.after ho (Nat.le_of_ble_eq_true rfl))
end
end Mine
end -- G6
section -- G7
set_option maxRecDepth 100000
set_option maxHeartbeats 4000000
namespace Mine
section
variable {w : World} {mg mb : Str → Option Value} {b₀ : Heap} {A : Around} {s : Shared} {R : Result → Shared → Prop} {x d : Addr} {es : List DictEntry} {n : Nat} {l : List Nat} {t : Value}
theorem init_io (Bs : Base w mg mb b₀) (st : b₀.StaysIn s.heap) (hroom : A.depth < 890) (ht : Sim t (.str l)) (hx : s.heap.get? x = some (instObj 605 d)) (hd : s.heap.get? d = some (dictOf [] 0)) (hd0 : b₀.get? d = none)
    (post : ∀ s', OutS w s s' d [] (ioAtt l 0) () (fun _ _ => True) → R (.ok (.ret .none)) s') : codeAny (model PG w) A (.call (.ref 375) ⟨[.ref x, t], []⟩) R s := by
  have hrl : recursionLimit = 1000 := rfl
  have hxd : x ≠ d := fun e => by rw [e, hd] at hx; cases hx
  refine enterSelfA (η := Unit) (e₀ := ()) (att := []) (Led2 := fun _ _ => True) (vs := [t, .str (sN "\n") 701]) (mvs := [.str l, .str [10]]) ⟨[.ref x, t], []⟩ [sN "initial_value", sN "newline"] [] ioOks [] initE noS noC Bs st (ff_ioInit w) (by omega) (.cons ht (.cons ⟨701, rfl⟩ .nil)) (by kernel_rfl) (by kernel_rfl) (by kernel_rfl) (ioOks_ok w) (ioCls_ok w) hx hd hd0 .nil (Nat.le_of_ble_eq_true rfl)
    (fun _ h => nomatch h) (fun _ h => nomatch h) (fun h => nomatch h) trivial (fun L Bg stg => initHooks Bs (by show A.depth + 1 < 900; omega) L _ Bg stg (hideAll_get _ hx (by simpa using hxd)) hd0) fun L s₁ ok hR hL hL0 => ?_
  refine xrun (ok _) 40 .next [(selfN, .val (.ref x)), (sN "initial_value", .str l), (sN "newline", .str [10])] (ioAtt l 0, ()) [] (by kernel_rfl) (fun _ h => nomatch h) hR fun s' hR' fl hfl => ?_
  cases fl <;> first | exact hfl.elim | exact post _ (hR'.outS rfl)
end
end Mine
end -- G7
section -- G8
set_option maxRecDepth 100000
set_option maxHeartbeats 4000000
namespace Mine
section
variable {w : World} {mg mb : Str → Option Value} {b₀ : Heap} {A : Around} {s : Shared} {R : Result → Shared → Prop} {x d : Addr} {es : List DictEntry} {n : Nat} {l : List Nat} {t : Value}
theorem depth_tc (A : Around) (C : Addr) (vs : List Value) (kw : List (Str × Value)) : (A.under (.builtin "type.__call__" ⟨.ref C :: vs, kw⟩)).depth = A.depth + 1 := rfl
theorem mkio_c (Bs : Base w mg mb b₀) (sy : b₀.StaysIn s.heap) (hroom : A.depth < 880) (ht : Sim t (.str l))
    (post : ∀ io dio s' es n, SameRest s s' → s.heap.StaysIn s'.heap → s.heap.get? io = none → s.heap.get? dio = none → io ≠ dio → s'.heap.get? io = some (instObj 605 dio) → s'.heap.get? dio = some (dictOf es n) → AttRel w (ioAtt l 0) es → R (.ok (.ret (.ref io))) s') :
    codeAny (model PG w) A (.call (.ref 605) ⟨[t], []⟩) R s := by
  have hrl : recursionLimit = 1000 := rfl
  refine make_io Bs sy (by rw [depth_tc]; omega) fun x d s₁ hn => ?_
  obtain ⟨hs, hk, hx0, hd0, hne, hx, hdd⟩ := hn
  have hd00 : b₀.get? d = none := by
    cases e : b₀.get? d with
    | none => rfl
    | some o => rw [sy _ _ e] at hd0; cases hd0
  refine init_io Bs (fun b o e => hk b o (sy b o e)) (by rw [depth_tc]; omega) ht hx hdd hd00 fun s' ho => ?_
  obtain ⟨h1, h2, es, n, rest, h3, h4, _⟩ := ho
  refine ⟨rfl, post x d s' es n (hs.trans h1) (fun b o e => h2 b o (hk b o e) fun q => ?_) hx0 hd0 hne (h2 _ _ hx (by simpa using hne)) h3 h4⟩
  rw [List.mem_singleton.mp q, hd0] at e
  cases e
end
end Mine
end -- G8
section -- G9
set_option maxRecDepth 100000
set_option maxHeartbeats 4000000
namespace Mine
section
variable {ε : Type} {I : Face ε} {w : World} {A : Around} {env : Env} {E : Value → Shared → Prop} {RR : Loc → ε → Shared → Prop}
/-- a global is called; what it gives is yours to say -/
theorem wp_callG (ok : FaceOk I PG w A env E RR) (n : Nat) {f : Str} {fv : Value} {args : List Expr} {p pos : Pos} {loc : Loc} {x x' : ε} {mvs : List MV} {o : List Nat} {s : Shared} {Q : Value → Shared → Prop} (hf : I.gfun f = some fv)
    (hvs : pevs I n args loc x = some (mvs, x', o)) (ho : ∀ k ∈ o, k ≤ sizeLine) (hR : RR loc x s) (hcall : ∀ vs s', Sims vs mvs → RR loc x' s' → wpAny (model PG w) A (PySem.call fv vs) Q E s') :
    wpAny (model PG w) A (eval (.Call (.Name f p) args [] pos) env) Q E s := by
  refine wpAny_Call_ofName (ok.gname hR hf ?_)
  have hplain : ((backTo pos (starEach args env)).any (·.1) || ([] : List (Option Str × Sem Value)).any (·.1.isNone)) = false := by
    rw [(pok ok n).1.star args _ _ _ pos hvs]; rfl
  refine callWith_of (P := fun h => ∃ k, (k = Keeper.frame ∨ k = Keeper.machine ∨ k = Keeper.boundFrame) ∧ Looks (model PG w) h (keeperOf fv) k) hplain (fun h' y => y) ?_
  have fin : wpAny (model PG w) A (spliced (backTo pos (starEach args env))) (fun vs' s1 => (∃ k, (k = Keeper.frame ∨ k = Keeper.machine ∨ k = Keeper.boundFrame) ∧ Looks (model PG w) s1.heap (keeperOf fv) k) ∧ wpAny (model PG w) A (PySem.call fv ([] ++ vs')) Q E s1) E s :=
    (psound ok n).2.1 _ _ _ _ _ _ pos hvs ho _ _ hR fun vs' s1 hv1 hR1 => ⟨ok.keeper hR1 hf, hcall _ _ hv1 hR1⟩
  cases args with
  | nil =>
    cases (pok ok n).2.1 _ _ _ hvs
    exact evalArgs_nil3 ⟨ok.keeper hR hf, hcall _ _ .nil hR⟩
  | cons e r =>
    have hs : isStar e = false := (pok ok n).2.2 _ _ _ _ _ hvs
    rw [star_plain hs] at fin ⊢
    exact Calls.evalArgs_plain fin

theorem xasgN (ok : FaceOk I PG w A env E RR) {y : Str} {p pos : Pos} {value : Expr} {s : Shared} {Q : Flow → Shared → Prop} (hc : isComp value = false) (ha : I.asgN.contains y = true)
    (h : wpAny (model PG w) A (eval value env) (fun v s' => ∃ mv loc x, Sim v mv ∧ RR loc x s' ∧ ∀ s'', RR (put y mv loc) x s'' → Q .next s'') E s) : wpAny (model PG w) A (exec (.Assign [.Name y p] value pos) env) Q E s :=
  wpAny_Assign_Name (wpAny_mono h (fun v s' ⟨mv, loc, x, hs, hR, hq⟩ => ok.store hR ha hs fun s2 hR2 => hq _ hR2) fun _ _ e => e) (swaps_plain hc)

theorem xasgA (ok : FaceOk I PG w A env E RR) {y a : Str} {p p2 pos : Pos} {value : Expr} {s : Shared} {Q : Flow → Shared → Prop} {ob : Value} (hc : isComp value = false) (hl : I.selfV y = some ob)
    (h : wpAny (model PG w) A (eval value env) (fun v s' => ∃ mv loc x x', Sim v mv ∧ RR loc x s' ∧ I.setA x y a mv = some x' ∧ ∀ s'', RR loc x' s'' → Q .next s'') E s) : wpAny (model PG w) A (exec (.Assign [.Attribute (.Name y p) a p2] value pos) env) Q E s :=
  plainObj_wpAny_Assign_Attribute (wpAny_mono h (fun v s' ⟨mv, loc, x, x', hs, hR, hset, hq⟩ => ok.sname hR hl (ok.set hR hl hset hs fun s2 hR2 => hq _ hR2)) fun _ _ e => e) (swaps_plain hc)
end
end Mine
end -- G9
section -- G10
set_option maxRecDepth 100000
set_option maxHeartbeats 4000000
namespace Mine
noncomputable abbrev Objs := List (Addr × Obj)
noncomputable abbrev LedO : Objs → Objs → Prop := fun e r => r = e
section
variable {w : World} {mg mb : Str → Option Value} {b₀ : Heap} {A : Around} {s s₀ s' : Shared} {R : Result → Shared → Prop} {g : Heap} {env : Env} {L x d : Addr} {loc att : Loc}
theorem RF.add {e : Objs} (h : RF s₀ g env L (LedS w x d LedO) loc (att, e) s) (k : s.heap.StaysIn s'.heap) (hs : SameRest s s') (nw : Objs) (hn : ∀ p ∈ nw, s.heap.get? p.1 = none ∧ s'.heap.get? p.1 = some p.2) :
    RF s₀ g env L (LedS w x d LedO) loc (att, nw ++ e) s' := by
  obtain ⟨h1, m, own, F, N, l, hm, es, n, rest, rfl, hr, hz, hd, h2⟩ := h
  cases h2
  have hLs : ∃ o, s.heap.get? L = some o := by obtain ⟨o, _, _, e, _⟩ := F.ns; exact ⟨o, e⟩
  obtain ⟨oL, hL⟩ := hLs
  have D := (N _ (.head _)).1
  refine ⟨h1.trans hs, m, (d, dictOf es n) :: (nw ++ e), frAfter (fp := []) F (fun b o e _ => k b o e) (fun _ q => nomatch q), fun p hp => ?_, l, hm, es, n, nw ++ e, rfl, hr, hz, fun p hp => ?_, rfl⟩
  · rcases List.mem_cons.mp hp with rfl | hp
    · exact ⟨k _ _ D, (N _ (.head _)).2⟩
    · rcases List.mem_append.mp hp with hp | hp
      · obtain ⟨a, b⟩ := hn p hp
        refine ⟨b, (fun q => by rw [q, hL] at a; cases a), ?_⟩
        cases z : g.get? p.1 with
        | none => rfl
        | some o => rw [F.keep _ _ z] at a; cases a
      · exact ⟨k _ _ (N _ (.tail _ hp)).1, (N _ (.tail _ hp)).2⟩
  · rcases List.mem_append.mp hp with hp | hp
    · intro q
      obtain ⟨a, b⟩ := hn p hp
      rw [q, D] at a; cases a
    · exact hd p hp

theorem RF.fresh {ε : Type} {e : ε} {Led : ε → (Str → Option Value) → Objs → Prop} {loc : Loc} {fp : List Addr} {b : Addr} (h : RF s₀ (hideAll s₀.heap fp) env L Led loc e s) (hb : s.heap.get? b = none) (hf : b ∉ fp) : s₀.heap.get? b = none := by
  obtain ⟨h1, m, own, F, N, _⟩ := h
  cases q : s₀.heap.get? b with
  | none => rfl
  | some o => rw [hide_keeps F q hf] at hb; cases hb

/-- deque() -/
theorem deq_eval {E : Value → Shared → Prop} {sc : Scope} {qual : Str} {f : Addr} {cd : Value} {m : Str → Option Value} {p pos : Pos} {Q : Value → Shared → Prop} (Bg : Base w mg mb g) (F : Fr g L s.heap m) (hk : sc.kind = .function) (hs : sc.names.lookup (sN "deque") = some .globalImplicit)
    (h : ∀ a s', SameRest s s' → s.heap.StaysIn s'.heap → s.heap.get? a = none → s'.heap.get? a = some (deqObj 0) → Q (.ref a) s') :
    wpAny (model PG w) A (eval (.Call (.Name (sN "deque") p) [] [] pos) (envOf qual sc L f cd)) Q E s := by
  refine wpAny_Call_ofName (ld_global_at F Bg.g (mg_of Bg.X Bg.g (v := .type "collections.deque") (by kernel_rfl)) ?_ hk hs (by kernel_rfl))
  refine PySem.callWith_type rfl ?_
  exact evalArgs_nil3 (deque_c h)
end
end Mine
end -- G10
section -- G11
set_option maxRecDepth 100000
set_option maxHeartbeats 4000000
namespace Mine
noncomputable def fLexInit : FuncData := fdAt 664
theorem ff_lexInit (w : World) : FnFacts w 664 fLexInit := ⟨by kernel_rfl, by kernel_rfl⟩
noncomputable def noE' {ε : Type} : Expr → Loc → ε → Option (MV × ε) := noE

/-- the dict as __init__ leaves it -/
noncomputable def lexAtt0 (io pb fs : Addr) : Loc :=
  [(sN "instream", .val (.ref io)), (sN "infile", .none), (sN "posix", .bool true), (sN "eof", .none), (sN "commenters", .str [35]), (sN "wordchars", .str wcL), (sN "whitespace", .str [32, 9, 13, 10]), (sN "whitespace_split", .bool false),
   (sN "quotes", .str [39, 34]), (sN "escape", .str [92]), (sN "escapedquotes", .str [34]), (sN "state", .str [32]), (sN "pushback", .val (.ref pb)), (sN "lineno", .int 1), (sN "debug", .int 0), (sN "token", .str []), (sN "filestack", .val (.ref fs)), (sN "source", .none), (sN "_punctuation_chars", .str [])]
section
variable {w : World} {mg mb : Str → Option Value} {b₀ : Heap} {A : Around} {s : Shared} {R : Result → Shared → Prop} {x d : Addr} {l : List Nat} {t : Value}
noncomputable abbrev asg0 : Stmt := .Assign [.Name (sN "instream") (PS 515 12 515 20)] (.Call (.Name (sN "StringIO") (PS 515 23 515 31)) [.Name (sN "instream") (PS 515 32 515 40)] [] (PS 515 23 515 41)) (PS 515 12 515 41)
theorem lexInit0 : ifB (stAt (bodyOf fLexInit) 0) = [asg0] := by kernel_rfl
noncomputable abbrev deqAsg (a : Str) (k c e : Nat) : Stmt := .Assign [.Attribute (.Name selfN (PS k 8 k 12)) a (PS k 8 k c)] (.Call (.Name (sN "deque") (PS k (c + 3) k (c + 8))) [] [] (PS k (c + 3) k e)) (PS k 8 k e)
theorem lexInit13 : stAt (bodyOf fLexInit) 13 = deqAsg (sN "pushback") 537 21 31 := by kernel_rfl
theorem lexInit17 : stAt (bodyOf fLexInit) 17 = deqAsg (sN "filestack") 541 22 32 := by kernel_rfl
theorem st_exec {k : Nat} {sts : List Stmt} {env : Env} {E : Value → Shared → Prop} {Q : Flow → Shared → Prop} (st : Stmt) (hk : Nat.blt k sts.length = true) (hi : stAt sts k = st)
    (h : wpAny (model PG w) A (exec st env) (fun f s' => match f with | .next => wpAny (model PG w) A (execs (sts.drop (k + 1)) env) Q E s' | f => Q f s') E s) : wpAny (model PG w) A (execs (sts.drop k) env) Q E s := by
  have hk' : k < sts.length := Nat.le_of_ble_eq_true hk
  have e : sts.drop k = stAt sts k :: sts.drop (k + 1) := by
    rw [List.drop_eq_getElem_cons hk']
    unfold stAt
    rw [List.getElem?_eq_getElem hk']; rfl
  rw [e, hi]
  exact wpAny_execs_cons h

theorem lex_init (Bs : Base w mg mb b₀) (sy : b₀.StaysIn s.heap) (hroom : A.depth < 870) (ht : Sim t (.str l)) (hx : s.heap.get? x = some (instObj 740 d)) (hd : s.heap.get? d = some (dictOf [] 0)) (hd0 : b₀.get? d = none)
    (post : ∀ io dio pb fs es2 n2 s', s.heap.get? io = none → s.heap.get? dio = none → s.heap.get? pb = none → s.heap.get? fs = none → io ≠ dio → AttRel w (ioAtt l 0) es2 →
      OutS w s s' d [] (lexAtt0 io pb fs) [(fs, deqObj 0), (pb, deqObj 0), (io, instObj 605 dio), (dio, dictOf es2 n2)] LedO → R (.ok (.ret .none)) s') : codeAny (model PG w) A (.call (.ref 664) ⟨[.ref x, t], [(sN "posix", .bool true)]⟩) R s := by
  have hrl : recursionLimit = 1000 := rfl
  have hxd : x ≠ d := fun e => by rw [e, hd] at hx; cases hx
  refine enterSelfA (η := Objs) (e₀ := []) (att := []) (Led2 := LedO) (vs := [t, .none, .bool true, .bool false]) (mvs := [.str l, .none, .bool true, .bool false]) ⟨[.ref x, t], [(sN "posix", .bool true)]⟩ [sN "instream", sN "infile", sN "posix", sN "punctuation_chars"] [sN "instream", sN "punctuation_chars"] lexOks [] noE noS noC Bs sy (ff_lexInit w) (by omega) (.cons ht (.cons rfl (.cons rfl (.cons rfl .nil)))) (by kernel_rfl) (by kernel_rfl) (by kernel_rfl) (lexOks_ok w) (lexCls_ok w) hx hd hd0 .nil (Nat.le_of_ble_eq_true rfl)
    (fun _ h => nomatch h) (fun _ h => nomatch h) (fun h => nomatch h) rfl (fun L Bg stg => noHooks) fun L s₁ ok hR hL hL0 => ?_
  have stg : b₀.StaysIn (hideAll s.heap [d]) := fun b o e => hideAll_get _ (sy _ _ e) fun q => by rw [List.mem_singleton.mp q, hd0] at e; cases e
  have Bg := Bs.keeps stg
  refine xifAt (sts := bodyOf fLexInit) (ok _) 30 true ([], []) [] 0 (by kernel_rfl) (by kernel_rfl) (by kernel_rfl) (fun _ h => nomatch h) hR fun s₂ hR₂ => ?_
  rw [if_pos rfl, lexInit0]
  have stb : ∀ {loc : Loc} {e : Loc × Objs} {s' : Shared}, RF s (hideAll s.heap [d]) (envAt fLexInit L 664) L (LedS w x d LedO) loc e s' → b₀.StaysIn s'.heap := fun hR b o e => by
    obtain ⟨_, m, own, F, _⟩ := hR
    exact F.keep b o (stg b o e)
  have dne : ∀ {b : Addr} {loc : Loc} {e : Loc × Objs} {s' : Shared}, RF s (hideAll s.heap [d]) (envAt fLexInit L 664) L (LedS w x d LedO) loc e s' → s'.heap.get? b = none → s.heap.get? b = none := fun {b loc e s'} hR hb => hR.fresh hb fun q => by
    obtain ⟨_, m, own, F, N, _, _, es, n, rest, rfl, _⟩ := hR
    rw [List.mem_singleton.mp q, (N _ (.head _)).1] at hb; cases hb
  refine wpAny_execs_cons (xasgN (ok _) rfl (by kernel_rfl) (wp_callG (ok _) 10 (fv := .ref 605) (mvs := [.str l]) (x' := ([], [])) (o := []) (by kernel_rfl) (by kernel_rfl) (fun _ h => nomatch h) hR₂ fun vs s3 hv hR3 => ?_))
  cases hv with | cons h1 h2 =>
  cases h2
  refine wpAny_call (mkio_c Bs (stb hR3) (by show A.depth + 1 < 880; omega) h1 fun io dio s4 es2 n2 hs4 hk4 hio0 hdio0 hne4 hio hdio hr4 => ?_)
  have hR4 := hR3.add hk4 hs4 [(io, instObj 605 dio), (dio, dictOf es2 n2)] (fun p hp => by
    rcases List.mem_cons.mp hp with rfl | hp
    · exact ⟨hio0, hio⟩
    · cases List.mem_singleton.mp hp
      exact ⟨hdio0, hdio⟩)
  refine ⟨.val (.ref io), _, _, rfl, hR4, fun s5 hR5 => ?_⟩
  show wpAny _ _ (execs ((bodyOf fLexInit).drop 1) _) _ _ _
  let loc1 : Loc := [(selfN, .val (.ref x)), (sN "instream", .val (.ref io)), (sN "infile", .none), (sN "posix", .bool true), (sN "punctuation_chars", .bool false)]
  let ob1 : Objs := [(io, instObj 605 dio), (dio, dictOf es2 n2)]
  refine xseg (ok _) 60 loc1 ((lexAtt0 io 0 0).take 12, ob1) [125] 12 (by kernel_rfl) (by intro k hk; rw [List.mem_singleton.mp hk, sizeLine_eq]; omega) hR5 fun s6 hR6 => ?_
  rw [List.drop_drop]
  refine st_exec (k := 13) _ (by kernel_rfl) lexInit13 (xasgA (ok _) rfl (ob := .ref x) (by kernel_rfl) ?_)
  have hR6' := hR6
  obtain ⟨_, m6, own6, F6, _⟩ := hR6'
  refine deq_eval Bg F6 (by kernel_rfl) (by kernel_rfl) fun pb s7 hs7 hk7 hpb0 hpb => ?_
  have hR7 := hR6.add hk7 hs7 [(pb, deqObj 0)] (fun p hp => by cases List.mem_singleton.mp hp; exact ⟨hpb0, hpb⟩)
  refine ⟨.val (.ref pb), _, _, ((lexAtt0 io pb 0).take 13, (pb, deqObj 0) :: ob1), rfl, hR7, by kernel_rfl, fun s8 hR8 => ?_⟩
  refine xseg (ok _) 60 loc1 ((lexAtt0 io pb 0).take 16, (pb, deqObj 0) :: ob1) [] 3 (by kernel_rfl) (fun _ h => nomatch h) hR8 fun s9 hR9 => ?_
  rw [List.drop_drop]
  refine st_exec (k := 17) _ (by kernel_rfl) lexInit17 (xasgA (ok _) rfl (ob := .ref x) (by kernel_rfl) ?_)
  have hR9' := hR9
  obtain ⟨_, m9, own9, F9, _⟩ := hR9'
  refine deq_eval Bg F9 (by kernel_rfl) (by kernel_rfl) fun fs s10 hs10 hk10 hfs0 hfs => ?_
  have hR10 := hR9.add hk10 hs10 [(fs, deqObj 0)] (fun p hp => by cases List.mem_singleton.mp hp; exact ⟨hfs0, hfs⟩)
  refine ⟨.val (.ref fs), _, _, ((lexAtt0 io pb fs).take 17, (fs, deqObj 0) :: (pb, deqObj 0) :: ob1), rfl, hR10, by kernel_rfl, fun s11 hR11 => ?_⟩
  refine xrun (ok _) 60 .next [(selfN, .val (.ref x)), (sN "instream", .val (.ref io)), (sN "infile", .none), (sN "posix", .bool true), (sN "punctuation_chars", .str [])] (lexAtt0 io pb fs, (fs, deqObj 0) :: (pb, deqObj 0) :: ob1) [] (by kernel_rfl) (fun _ h => nomatch h) hR11 fun s' hR' fl hfl => ?_
  cases fl <;> first | exact hfl.elim | skip
  exact post io dio pb fs es2 n2 s' (dne hR3 hio0) (dne hR3 hdio0) (dne hR6 hpb0) (dne hR9 hfs0) hne4 hr4 (hR'.outS rfl)
end
end Mine
end -- G11
section -- G12
set_option maxRecDepth 100000
set_option maxHeartbeats 4000000
namespace Mine
/-- a new lexer over the text l -/
structure LexNew (w : World) (l : List Nat) (s s' : Shared) (x d io dio pb fs : Addr) : Prop where
  rest : SameRest s s'
  keep : s.heap.StaysIn s'.heap
  x0 : s.heap.get? x = none
  d0 : s.heap.get? d = none
  io0 : s.heap.get? io = none
  dio0 : s.heap.get? dio = none
  pb0 : s.heap.get? pb = none
  fs0 : s.heap.get? fs = none
  ne : dio ≠ d
  hx : s'.heap.get? x = some (instObj 740 d)
  hd : ∃ es n, s'.heap.get? d = some (dictOf es n) ∧ AttRel w (lexAtt0 io pb fs) es
  hio : s'.heap.get? io = some (instObj 605 dio)
  hdio : ∃ es n, s'.heap.get? dio = some (dictOf es n) ∧ AttRel w (ioAtt l 0) es
  hpb : s'.heap.get? pb = some (deqObj 0)
  hfs : s'.heap.get? fs = some (deqObj 0)
section
variable {w : World} {mg mb : Str → Option Value} {b₀ : Heap} {A : Around} {s : Shared} {R : Result → Shared → Prop} {l : List Nat} {t : Value}
theorem mklex_c (Bs : Base w mg mb b₀) (sy : b₀.StaysIn s.heap) (hroom : A.depth < 860) (ht : Sim t (.str l))
    (post : ∀ x d io dio pb fs s', LexNew w l s s' x d io dio pb fs → R (.ok (.ret (.ref x))) s') : codeAny (model PG w) A (.call (.ref 740) ⟨[t], [(sN "posix", .bool true)]⟩) R s := by
  have X := (Bs.keeps sy).X
  obtain ⟨hp, g, dr, tk, os⟩ := s
  dsimp only at X sy
  refine make_core (makes_of X (by kernel_rfl)) (looks_findIn X (r := some (.ref 664)) (by kernel_rfl)) (fun self => bind_fn X self (by kernel_rfl)) (.inl rfl) ?_
  have k : hp.StaysIn ((hp.push emptyDict).push (instObj 740 hp.objs.size)) := fun b o e => Heap.get?_push_of_some _ (Heap.get?_push_of_some _ e)
  have hx : ((hp.push emptyDict).push (instObj 740 hp.objs.size)).get? (hp.objs.size + 1) = some (instObj 740 hp.objs.size) := by heap_get
  have hdd : ((hp.push emptyDict).push (instObj 740 hp.objs.size)).get? hp.objs.size = some (dictOf [] 0) := Heap.get?_push_of_some _ (Heap.get?_push_at rfl rfl)
  have nn : ∀ n, hp.objs.size ≤ n → hp.get? n = none := fun n h => Heap.get?_none_of_le h
  have hd0 : b₀.get? hp.objs.size = none := by
    cases e : b₀.get? hp.objs.size with
    | none => rfl
    | some o => have := sy _ _ e; rw [nn _ (Nat.le_refl _)] at this; cases this
  refine lex_init Bs (fun b o e => k b o (sy b o e)) (by rw [depth_tc]; omega) ht hx hdd hd0 fun io dio pb fs es2 n2 s' hio0 hdio0 hpb0 hfs0 hne hr ho => ⟨rfl, post (hp.objs.size + 1) hp.objs.size io dio pb fs s' ?_⟩
  obtain ⟨h1, h2, es, n, rest, h3, h4, h5, h6⟩ := ho
  cases h6
  have old : ∀ {b : Addr}, ((hp.push emptyDict).push (instObj 740 hp.objs.size)).get? b = none → hp.get? b = none := fun {b} e => by
    cases q : hp.get? b with
    | none => rfl
    | some o => rw [k _ _ q] at e; cases e
  exact ⟨⟨h1.gens, h1.drawn, h1.os⟩, fun b o e => h2 b o (k b o e) (fun q => by rw [List.mem_singleton.mp q, nn _ (Nat.le_refl _)] at e; cases e), nn _ (Nat.le_succ _), nn _ (Nat.le_refl _), old hio0, old hdio0, old hpb0, old hfs0,
    (fun q => by rw [q, hdd] at hdio0; cases hdio0), h2 _ _ hx (by simp), ⟨es, n, h3, h4⟩, h5 _ (.tail _ (.tail _ (.head _))), ⟨es2, n2, h5 _ (.tail _ (.tail _ (.tail _ (.head _)))), hr⟩, h5 _ (.tail _ (.head _)), h5 _ (.head _)⟩
end
end Mine
end -- G12
section -- G13
set_option maxRecDepth 100000
set_option maxHeartbeats 4000000
namespace Mine
noncomputable def fSplit : FuncData := fdAt 752
theorem ff_split (w : World) : FnFacts w 752 fSplit := ⟨by kernel_rfl, by kernel_rfl⟩
noncomputable abbrev spAsg : Stmt := .Assign [.Name (sN "lex") (PS 766 4 766 7)] (.Call (.Name (sN "shlex") (PS 766 10 766 15)) [.Name (sN "s") (PS 766 16 766 17)] [⟨some (sN "posix"), .Name (sN "posix") (PS 766 25 766 30), PS 766 19 766 30⟩] (PS 766 10 766 31)) (PS 766 4 766 31)
theorem split1 : stAt (bodyOf fSplit) 1 = spAsg := by kernel_rfl
noncomputable abbrev spSet1 : Stmt := .Assign [.Attribute (.Name (sN "lex") (PS 767 4 767 7)) (sN "whitespace_split") (PS 767 4 767 24)] (.Constant (.bool true) 0 (PS 767 27 767 31)) (PS 767 4 767 31)
theorem split2 : stAt (bodyOf fSplit) 2 = spSet1 := by kernel_rfl
noncomputable abbrev spSet2 : Stmt := .Assign [.Attribute (.Name (sN "lex") (PS 769 8 769 11)) (sN "commenters") (PS 769 8 769 22)] (.Constant (.str (sN "")) 0 (PS 769 25 769 27)) (PS 769 8 769 27)
theorem split3 : ifB (stAt (bodyOf fSplit) 3) = [spSet2] := by kernel_rfl
noncomputable abbrev spRet : Stmt := .Return (some (.Call (.Name (sN "list") (PS 770 11 770 15)) [.Name (sN "lex") (PS 770 16 770 19)] [] (PS 770 11 770 20))) (PS 770 4 770 20)
theorem split4 : (bodyOf fSplit).drop 4 = [spRet] := by kernel_rfl
noncomputable abbrev LedP : Objs → (Str → Option Value) → Objs → Prop := fun e _ own => own = e
section
variable {w : World} {mg mb : Str → Option Value} {b₀ : Heap} {A : Around} {s : Shared} {R : Result → Shared → Prop} {l : List Nat} {t : Value}
theorem RF.addP {s₀ s' : Shared} {g : Heap} {env : Env} {L : Addr} {loc : Loc} {e : Objs} (h : RF s₀ g env L LedP loc e s) (k : s.heap.StaysIn s'.heap) (hs : SameRest s s') (nw : Objs) (hn : ∀ p ∈ nw, s.heap.get? p.1 = none ∧ s'.heap.get? p.1 = some p.2) :
    RF s₀ g env L LedP loc (nw ++ e) s' := by
  obtain ⟨h1, m, own, F, N, l, h2⟩ := h
  cases h2
  obtain ⟨oL, hL⟩ : ∃ o, s.heap.get? L = some o := by obtain ⟨o, _, _, e, _⟩ := F.ns; exact ⟨o, e⟩
  refine ⟨h1.trans hs, m, nw ++ e, frAfter (fp := []) F (fun b o e _ => k b o e) (fun _ q => nomatch q), fun p hp => ?_, l, rfl⟩
  rcases List.mem_append.mp hp with hp | hp
  · obtain ⟨a, b⟩ := hn p hp
    refine ⟨b, (fun q => by rw [q, hL] at a; cases a), ?_⟩
    cases z : g.get? p.1 with
    | none => rfl
    | some o => rw [F.keep _ _ z] at a; cases a
  · exact ⟨k _ _ (N _ hp).1, (N _ hp).2⟩
theorem set_lex {s₀ : Shared} {g : Heap} {env : Env} {E : Value → Shared → Prop} {I : Face Objs} {L x d : Addr} {loc att : Loc} {es : List DictEntry} {n : Nat} {rest : Objs} {y a : Str} {p p2 pos : Pos} {value : Expr} {mv : MV} {Q : Flow → Shared → Prop} (ok : FaceOk I PG w A env E (RF s₀ g env L LedP)) (X : (KK w).In g)
    (hc : isComp value = false) (hR : RF s₀ g env L LedP loc ((d, dictOf es n) :: rest) s) (hl : loc.lookup y = some (.val (.ref x))) (hx : (x, instObj 740 d) ∈ rest) (hr : AttRel w att es) (hk : attOk (KK w) 740 a = true) (ho : okMV mv = true) (hd : ∀ p ∈ rest, p.1 ≠ d) (hz : att.length ≤ 999)
    (hv : ∀ Q' : Value → Shared → Prop, (∀ v s', Sim v mv → RF s₀ g env L LedP loc ((d, dictOf es n) :: rest) s' → Q' v s') → wpAny (model PG w) A (eval value env) Q' E s)
    (h : ∀ es' n' s', RF s₀ g env L LedP loc ((d, dictOf es' n') :: rest) s' → AttRel w (put a mv att) es' → Q .next s') : wpAny (model PG w) A (exec (.Assign [.Attribute (.Name y p) a p2] value pos) env) Q E s := by
  refine plainObj_wpAny_Assign_Attribute (hv _ fun v s1 hs hR1 => ok.name hR1 hl fun v' hv' => ?_) (swaps_plain hc)
  cases hv'
  obtain ⟨h1, m, own, F, N, l, h2⟩ := hR1
  cases h2
  exact att_set F X N (N _ (.tail _ hx)).1 hr (lexCls_ok w) hk hs ho hd hz fun h' es' n' F' N' hr' => h es' n' _ ⟨h1.put _ _, m, _, F', N', l, rfl⟩ hr'
theorem split_pre (Bs : Base w mg mb b₀) (sy : b₀.StaysIn s.heap) (hroom : A.depth < 820) (ht : Sim t (.str l))
    (h : ∀ L s' x d io dio pb fs m, Fr s.heap L s'.heap m → SameRest s s' → s.heap.get? L = none → s.heap.get? d = none → s.heap.get? dio = none → dio ≠ d → d ≠ L → dio ≠ L → LexAt w x d io dio pb fs .sp l 0 s'.heap →
      wpAny (model PG w) (A.deeper (envAt fSplit L 752)) (call (.type "list") [.ref x]) (fun v s'' => R (.ok (.ret v)) s'')
        (fun e s' => wpAny (model PG w) (A.deeper (envAt fSplit L 752)) (leaving (envAt fSplit L 752) e) (fun _ s'' => R (.error e) s'') (fun e' s'' => R (.error e') s'') s') s') :
    codeAny (model PG w) A (.call (.ref 752) ⟨[t], []⟩) R s := by
  have hrl : recursionLimit = 1000 := rfl
  refine enterF (binds := [(sN "s", t), (sN "comments", .bool false), (sN "posix", .bool true)]) [] Bs sy (ff_split w) (by omega) (binds_run (Bs.keeps sy) 100 (by kernel_rfl)) (by kernel_rfl) (fun _ h => nomatch h) fun L h₁ F N stg hL hL0 hk => ?_
  have Bg := Bs.keeps stg
  have ok := fun E => frameOk (A := A.deeper (envAt fSplit L 752)) (E := E) hk
    (plainHyp (ε := Objs) (hookE := noE) (hookS := noS) (callV := noC) (Led := LedP) (qual := fSplit.qualname) (sc := fSplit.scope) (L := L) (f := 752) (cd := fSplit.code) (s₀ := s) (asg := [sN "lex"]) Bg hk (by kernel_rfl) (fun _ _ _ _ _ _ h => h)
      (fun _ h => by cases h) (fun _ h => by cases h) (fun _ h => by cases h))
  have hR : RF s (hideAll s.heap []) (envAt fSplit L 752) L LedP [(sN "s", .str l), (sN "comments", .bool false), (sN "posix", .bool true)] [] { s with heap := h₁, toks := s.toks + 3 } :=
    ⟨⟨rfl, rfl, rfl⟩, _, [], F, N, locRel_init [sN "s", sN "comments", sN "posix"] [t, .bool false, .bool true] [.str l, .bool false, .bool true] (namesOk_nodup (sc := fSplit.scope) (by kernel_rfl)) (.cons ht (.cons rfl (.cons rfl .nil))) (namesOk_mem (by kernel_rfl)), rfl⟩
  refine xifAt (sts := bodyOf fSplit) (ok _) 30 false [] [] 0 (by kernel_rfl) (by kernel_rfl) (by kernel_rfl) (fun _ h => nomatch h) hR fun s₂ hR₂ => ?_
  show wpAny _ _ (execs ((bodyOf fSplit).drop 1) _) _ _ _
  have hR₂' := hR₂
  obtain ⟨r1, m2, own2, F2, N2, l2, rfl⟩ := hR₂'
  refine st_exec (k := 1) _ (by kernel_rfl) split1 (xasgN (ok _) rfl (by kernel_rfl) (wpAny_Call_ofName ((ok _).gname hR₂ (fv := .ref 740) (by kernel_rfl) ?_)))
  refine callWith_KW (K := KK w) Bg.X (by kernel_rfl) rfl (Calls.spliced_cons ((ok _).name hR₂ (v := .str l) (by kernel_rfl) fun v1 hv1 => Calls.spliced_nil (wpAny_evalAll_cons (wpAny_bind (m := eval (.Name (sN "posix") (PS 766 25 766 30)) _) ((ok _).name hR₂ (v := .bool true) (by kernel_rfl) fun v2 hv2 => wpAny_bind (wpAny_standAt (wpAny_pure (wpAny_evalAll_nil ⟨Bg.X.keeps F2.keep, ?_⟩))))))))
  cases hv2
  refine wpAny_call (mklex_c Bs (fun b o e => F2.keep b o (stg b o e)) (by show A.depth + 1 < 860; omega) hv1 fun x d io dio pb fs s3 hn => ?_)
  obtain ⟨es, n, hd, hr⟩ := hn.hd
  obtain ⟨es2, n2, hdio, hr2⟩ := hn.hdio
  have hR3 := hR₂.addP hn.keep hn.rest [(d, dictOf es n), (x, instObj 740 d), (io, instObj 605 dio), (dio, dictOf es2 n2), (pb, deqObj 0), (fs, deqObj 0)] (fun p hp => by
    simp only [List.mem_cons, List.not_mem_nil, or_false] at hp
    rcases hp with rfl | rfl | rfl | rfl | rfl | rfl
    · exact ⟨hn.d0, hd⟩
    · exact ⟨hn.x0, hn.hx⟩
    · exact ⟨hn.io0, hn.hio⟩
    · exact ⟨hn.dio0, hdio⟩
    · exact ⟨hn.pb0, hn.hpb⟩
    · exact ⟨hn.fs0, hn.hfs⟩)
  refine ⟨.val (.ref x), _, _, rfl, hR3, fun s4 hR4 => ?_⟩
  let rest : Objs := [(x, instObj 740 d), (io, instObj 605 dio), (dio, dictOf es2 n2), (pb, deqObj 0), (fs, deqObj 0)]
  have hrest : ∀ p ∈ rest, p.1 ≠ d := fun p hp => by
    simp only [rest, List.mem_cons, List.not_mem_nil, or_false] at hp
    rcases hp with rfl | rfl | rfl | rfl | rfl
    · intro q; have := hn.hx; dsimp only at q; rw [q, hd] at this; cases this
    · intro q; have := hn.hio; dsimp only at q; rw [q, hd] at this; cases this
    · exact hn.ne
    · intro q; have := hn.hpb; dsimp only at q; rw [q, hd] at this; exact absurd (congrArg Obj.data (Option.some.inj this)) (fun z => by cases z)
    · intro q; have := hn.hfs; dsimp only at q; rw [q, hd] at this; exact absurd (congrArg Obj.data (Option.some.inj this)) (fun z => by cases z)
  refine st_exec (k := 2) _ (by kernel_rfl) split2 (set_lex (ok _) Bg.X rfl (rest := rest) (mv := .bool true) hR4 (by kernel_rfl) (.head _) hr (by kernel_rfl) rfl hrest (Nat.le_of_ble_eq_true rfl)
    (fun Q' hq => (psound (ok _) 5).1 _ _ _ _ _ _ (show pev _ 5 _ _ _ = some (.bool true, (d, dictOf es n) :: rest, []) from by kernel_rfl) (fun _ h => nomatch h) _ _ hR4 hq) fun es5 n5 s5 hR5 hr5 => ?_)
  refine xifAt (sts := bodyOf fSplit) (ok _) 30 true ((d, dictOf es5 n5) :: rest) [] 3 (by kernel_rfl) (by kernel_rfl) (by kernel_rfl) (fun _ h => nomatch h) hR5 fun s6 hR6 => ?_
  rw [if_pos rfl, split3, split4]
  refine wpAny_execs_cons (set_lex (ok _) Bg.X rfl (rest := rest) (mv := .str []) hR6 (by kernel_rfl) (.head _) hr5 (by kernel_rfl) rfl hrest (Nat.le_of_ble_eq_true rfl)
    (fun Q' hq => (psound (ok _) 5).1 _ _ _ _ _ _ (show pev _ 5 _ _ _ = some (.str [], (d, dictOf es5 n5) :: rest, []) from by kernel_rfl) (fun _ h => nomatch h) _ _ hR6 hq) fun es7 n7 s7 hR7 hr7 => ?_)
  refine wpAny_execs_cons (wpAny_Return_some (wp_callG (ok _) 10 (fv := .type "list") (mvs := [.val (.ref x)]) (x' := (d, dictOf es7 n7) :: rest) (o := []) (by kernel_rfl) (by kernel_rfl) (fun _ h => nomatch h) hR7 fun vs s8 hv hR8 => ?_))
  cases hv with | cons a b =>
  cases b
  cases a
  obtain ⟨r8, m8, own8, F8, N8, l8, e8⟩ := hR8
  cases e8
  have g0 : ∀ {b : Addr}, s₂.heap.get? b = none → s.heap.get? b = none := fun {b} hb => hR₂.fresh hb (fun q => nomatch q)
  refine h L s8 x d io dio pb fs m8 F8 r8 hL (g0 hn.d0) (g0 hn.dio0) hn.ne (N8 _ (.head _)).2.1 (N8 _ (.tail _ (.tail _ (.tail _ (.head _))))).2.1
    ⟨(N8 _ (.tail _ (.head _))).1, ⟨es7, n7, (N8 _ (.head _)).1, hr7⟩, (N8 _ (.tail _ (.tail _ (.head _)))).1, ⟨es2, n2, (N8 _ (.tail _ (.tail _ (.tail _ (.head _))))).1, hr2⟩, ⟨0, (N8 _ (.tail _ (.tail _ (.tail _ (.tail _ (.head _)))))).1⟩, ⟨0, (N8 _ (.tail _ (.tail _ (.tail _ (.tail _ (.tail _ (.head _))))))).1⟩⟩
end
end Mine
end -- G13
section -- G14
set_option maxRecDepth 100000
set_option maxHeartbeats 4000000
namespace Mine
section
variable {w : World} {mg mb : Str → Option Value} {b₀ : Heap} {A : Around} {s : Shared} {R : Result → Shared → Prop} {l : List Nat} {t : Value} {outer : List Env}
/-- split(text), the words -/
theorem split_ok {ws : List (List Nat)} (Bs : Base w mg mb b₀) (sk : Stk A outer b₀ s.heap) (hroom : A.depth < 820) (ht : Sim t (.str l)) (hlen : l.length ≤ 100000) (hal : ∀ c ∈ l, c ∈ alpha) (hw : TokS l .sp ws)
    (post : ∀ S s' us c', SameRest s s' → KeptF outer [] s.heap s'.heap → s.heap.get? S = none → Sims us (ws.map MV.str) → s'.heap.get? S = some (lstObj us c') → R (.ok (.ret (.ref S))) s') : codeAny (model PG w) A (.call (.ref 752) ⟨[t], []⟩) R s := by
  refine split_pre Bs sk.st hroom ht fun L s₁ x d io dio pb fs m F hs hL hd hdio hne hdL hdioL lx => ?_
  have sk' : Stk (A.deeper (envAt fSplit L 752)) (envAt fSplit L 752 :: outer) b₀ s₁.heap := sk.push (fp := []) (by kernel_rfl) F hL (fun b o e _ => F.keep b o e) (fun _ q => nomatch q)
  have nb : ∀ {b : Addr}, s.heap.get? b = none → b₀.get? b = none := fun {b} e => by
    cases q : b₀.get? b with
    | none => rfl
    | some o => rw [sk.st _ _ q] at e; cases e
  have nf : ∀ {b : Addr}, s.heap.get? b = none → b ∉ frA outer := fun {b} e q => by
    obtain ⟨_, o, ho, _⟩ := sk.ff.mem q
    rw [ho] at e; cases e
  refine list_ok (outer := envAt fSplit L 752 :: outer) Bs (fun b o e => F.keep b o (sk.st b o e)) (by show A.depth + 1 < 830; omega) sk'.hd sk'.fr (nb hd) (nb hdio) hne (fun b hb q => ?_) hlen hal (by first | trivial | (unfold lsOk; simp)) hw F sk.st sk'.ff lx fun S s' us c' hs' hk' hS hus hS' => ?_
  · have hb' : s.heap.get? b = none ∧ b ≠ L := by
      rcases List.mem_cons.mp hb with rfl | hb
      · exact ⟨hd, hdL⟩
      · rw [List.mem_singleton.mp hb]; exact ⟨hdio, hdioL⟩
    rcases List.mem_cons.mp q with q | q
    · exact hb'.2 q
    · exact nf hb'.1 q
  · have hS0 : s.heap.get? S = none := by
      cases q : s.heap.get? S with
      | none => rfl
      | some o => rw [F.keep _ _ q] at hS; cases hS
    have off : ∀ b o, s.heap.get? b = some o → b ∉ [d, dio] := fun b o e q => by
      rcases List.mem_cons.mp q with rfl | q
      · rw [hd] at e; cases e
      · rw [List.mem_singleton.mp q, hdio] at e; cases e
    refine post S s' us c' (hs.trans hs') ⟨fun b o e _ q => hk'.old b o (F.keep b o e) (off b o e) (fun z => ?_), fun b o e _ q => hk'.upto b o (F.keep b o e) (off b o e) q⟩ hS0 hus hS'
    rcases List.mem_cons.mp z with z | z
    · rw [z, hL] at e; cases e
    · exact q z
/-- split(text), refused -/
theorem split_bad {bs : Heap} (Bs : Base w mg mb b₀) (sy : b₀.StaysIn s.heap) (sk : Stk A outer bs s.heap) (hroom : A.depth < 820) (ht : Sim t (.str l)) (hlen : l.length ≤ 100000) (hal : ∀ c ∈ l, c ∈ alpha) (hw : TokB l .sp)
    (post : ∀ e s', SameRest s s' → FlyX bs outer e (.type "ValueError") [] s.heap s'.heap → R (.error (.ref e)) s') : codeAny (model PG w) A (.call (.ref 752) ⟨[t], []⟩) R s := by
  refine split_pre Bs sy hroom ht fun L s₁ x d io dio pb fs m F hs hL hd hdio hne hdL hdioL lx => ?_
  have sk' : Stk (A.deeper (envAt fSplit L 752)) (envAt fSplit L 752 :: outer) bs s₁.heap := sk.push (fp := []) (by kernel_rfl) F hL (fun b o e _ => F.keep b o e) (fun _ q => nomatch q)
  have nb : ∀ {h : Heap} {b : Addr}, h.StaysIn s.heap → s.heap.get? b = none → h.get? b = none := fun {h b} k e => by
    cases q : h.get? b with
    | none => rfl
    | some o => rw [k _ _ q] at e; cases e
  have nf : ∀ {b : Addr}, s.heap.get? b = none → b ∉ frA outer := fun {b} e q => by
    obtain ⟨_, o, ho, _⟩ := sk.ff.mem q
    rw [ho] at e; cases e
  refine list_bad (outer := envAt fSplit L 752 :: outer) (bs := bs) Bs (fun b o e => F.keep b o (sy b o e)) (by show A.depth + 1 < 830; omega) sk'.hd sk'.fr (nb sy hd) (nb sy hdio) hne (fun b hb q => ?_) (fun b hb => ?_) sk'.st hlen hal (by first | trivial | (unfold lsOk; simp)) hw F sy sk'.ff lx fun e s' hs' hf => ?_
  · have hb' : s.heap.get? b = none ∧ b ≠ L := by
      rcases List.mem_cons.mp hb with rfl | hb
      · exact ⟨hd, hdL⟩
      · rw [List.mem_singleton.mp hb]; exact ⟨hdio, hdioL⟩
    rcases List.mem_cons.mp q with q | q
    · exact hb'.2 q
    · exact nf hb'.1 q
  · rcases List.mem_cons.mp hb with rfl | hb
    · exact nb sk.st hd
    · rw [List.mem_singleton.mp hb]; exact nb sk.st hdio
  · have off : ∀ b o, s.heap.get? b = some o → b ∉ [d, dio] := fun b o e q => by
      rcases List.mem_cons.mp q with rfl | q
      · rw [hd] at e; cases e
      · rw [List.mem_singleton.mp q, hdio] at e; cases e
    exact leave_fly sk'.fr rfl hf fun h'' hf'' => post e _ ((hs.trans hs').put _ _) ⟨hf''.1, fun b o e _ q => hf''.2 b o (F.keep b o e) (off b o e) q⟩
end
end Mine
end -- G14
section -- H1
set_option maxRecDepth 100000
set_option maxHeartbeats 4000000
namespace Mine
theorem isList_lst {h : Heap} {a : Addr} {vs : List Value} {c : Nat} (e : h.get? a = some (lstObj vs c)) : h.IsList a vs.toArray := ⟨_, e, rfl, c, rfl⟩
section
variable {w : World} {A : Around} {E : Value → Shared → Prop} {s : Shared}
/-- an item of a list -/
theorem it_list {value slice : Expr} {a : Addr} {vs : List Value} {c : Nat} {k : Int} {u : Tok} {v : Value} {Q : Value → Shared → Prop} (e : s.heap.get? a = some (lstObj vs c)) (h0 : 0 ≤ k) (hf : k < 2 ^ 63) (hx : vs[k.toNat]? = some v) (h : Q v s)
    (hs : subscripted slice false (.ref a) (.int k u) = operate [.ref a, .int k u] (getItem (.ref a) (.int k u)) := by with_unfolding_all rfl) : wpAny (model PG w) A (subscriptTail value slice (.ref a) (.int k u)) Q E s :=
  tail_any (isList_lst e).typeIs slot_list_getitem.lookup (wpAny_getItem_list (isList_lst e) h0 hf (by simpa using hx) h) hs
/-- the last item -/
theorem it_last {value slice : Expr} {a : Addr} {vs : List Value} {c : Nat} {u : Tok} {v : Value} {Q : Value → Shared → Prop} (e : s.heap.get? a = some (lstObj (vs ++ [v]) c)) (h : Q v s)
    (hs : subscripted slice false (.ref a) (.int (-1) u) = operate [.ref a, .int (-1) u] (getItem (.ref a) (.int (-1) u)) := by with_unfolding_all rfl) : wpAny (model PG w) A (subscriptTail value slice (.ref a) (.int (-1) u)) Q E s := by
  refine tail_any (isList_lst e).typeIs slot_list_getitem.lookup (wpAny_getItem_list_neg (isList_lst e) (by decide) ?_ (by decide) ?_ h) hs
  · simp; omega
  · have : (-1 + (((vs ++ [v]).toArray.size : Nat) : Int)).toNat = vs.length := by simp; omega
    rw [this]
    simp
/-- the last item is set -/
theorem set_last {a : Addr} {vs : List Value} {c : Nat} {u : Tok} {v v' : Value} {Q : Unit → Shared → Prop} (e : s.heap.get? a = some (lstObj (vs ++ [v]) c))
    (h : ∀ h' c', Heap.SameBut a s.heap h' → h'.get? a = some (lstObj (vs ++ [v']) c') → Q () { s with heap := h' }) : wpAny (model PG w) A (setItem (.ref a) (.int (-1) u) v') Q E s := by
  have hl := isList_lst e
  obtain ⟨o, ho, hc, ne, hd⟩ := id hl
  unfold setItem
  try with_reducible refine wpAny_holding ?_
  first | refine wpAny_bind (wpAny_pure ?_) | skip
  refine wpAny_bind (wpAny_sequenceKey hl.typeIs (by decide) ?_)
  refine wpAny_bind (wpAny_callSpecial?_slot (name := Str.ofString "__setitem__") hl.typeIs slot_list_setitem
    (wpAny_call_entry slot_list_setitem hl.typeIs entry_list_setitem ?_ (args_list_setitem _ _ _)))
  show wpAny _ _ (Builtin.List.listSubscript? (.int (-1) u) >>= _) _ _ s
  refine wpAny_bind (wpAny_listSubscript_int (fitsIndex_neg (by decide) (by decide)) ?_)
  have hidx : seqIndex? (-1) (vs ++ [v]).toArray.size = some vs.length := by
    rw [seqIndex_neg (by decide) (by simp; omega)]
    congr 1
    simp; omega
  show wpAny _ _ ((Builtin.List.listItems (.ref a) >>= fun xs => pure ((seqIndex? (Int.negSucc 0) xs.size).bind fun i => xs[i]?.map (i, ·))) >>= _) _ _ s
  refine wpAny_bind (wpAny_bind ?_)
  show wpAny _ _ (seqItems? (.ref a) >>= _) _ _ s
  refine wpAny_bind (wpAny_seqItems e rfl (wpAny_pure (wpAny_pure ?_)))
  have hidx' : seqIndex? (Int.negSucc 0) (vs ++ [v]).toArray.size = some vs.length := hidx
  rw [hidx']
  have hx : (vs ++ [v]).toArray[vs.length]? = some v := by simp
  simp only [Option.bind_some, hx, Option.map_some]
  show wpAny _ _ (setSeqItemAt a vs.length v' >>= _) _ _ s
  refine wpAny_bind (wpAny_setSeqItemAt e rfl ?_)
  have hfin : (s.heap.update a (Obj.mapSeq (·.setIfInBounds vs.length v'))).get? a = some (lstObj (vs ++ [v']) c) := by
    rw [Heap.get?_update_self _ e rfl]
    simp [Obj.mapSeq, lstObj]
  first
    | exact wpAny_bind (wpAny_pure (wpAny_pure ⟨.none, rfl, wpAny_pure (h _ _ (Heap.SameBut.update ..) hfin)⟩))
    | exact wpAny_pure ⟨.none, rfl, wpAny_pure (h _ _ (Heap.SameBut.update ..) hfin)⟩
/-- a text's sign -/
theorem it_str {value slice : Expr} {l : List Nat} {t : Tok} {k : Nat} {u : Tok} {x : Nat} {Q : Value → Shared → Prop} (hx : l[k]? = some x) (hf : l.length ≤ sizeLine) (h : Q (.str ⟨#[x]⟩ s.toks) { s with toks := s.toks + 1 })
    (hs : subscripted slice false (.str ⟨l.toArray⟩ t) (.int k u) = operate [.str ⟨l.toArray⟩ t, .int k u] (getItem (.str ⟨l.toArray⟩ t) (.int k u)) := by with_unfolding_all rfl) : wpAny (model PG w) A (subscriptTail value slice (.str ⟨l.toArray⟩ t) (.int k u)) Q E s := by
  have hk : k < l.length := (List.getElem?_eq_some_iff.mp hx).1
  rw [sizeLine_eq] at hf
  refine tail_any (typeIs_str s _ t) PySem.F.slot_str_getitem.lookup (P.getItem_str ?_ ?_ h) hs
  · rw [Bool.or_eq_false_iff]; exact ⟨decide_eq_false (by omega), decide_eq_false (by omega)⟩
  · have : seqIndex? (k : Int) (⟨l.toArray⟩ : Str).length = some k := by
      unfold seqIndex?
      rw [str_len, if_neg (by omega : ¬ ((k : Int) < 0)), if_pos (by simp only [Bool.and_eq_true, decide_eq_true_eq]; omega)]
      rfl
    rw [this]
    simpa using hx
/-- y.append(arg) -/
theorem st_append {env : Env} {y : Str} {a : Addr} {vs : List Value} {c : Nat} {p apos pos epos : Pos} {arg : Expr} {Q : Flow → Shared → Prop} (hline : (apos.endLine == pos.line) = true) (hst : isStar arg = false) (hi : interactive env = false)
    (hy : ∀ Q' : Value → Shared → Prop, Q' (.ref a) s → wpAny (model PG w) A (eval (.Name y p) env) Q' E s) (e : s.heap.get? a = some (lstObj vs c)) (hsz : vs.length ≤ 1000000)
    (h : wpAny (model PG w) A (eval arg env) (fun v s₁ => s₁.heap.get? a = some (lstObj vs c) ∧ ∀ h' c', Heap.SameBut a s₁.heap h' → h'.get? a = some (lstObj (vs ++ [v]) c') → Q .next { s₁ with heap := h' }) E s) :
    wpAny (model PG w) A (exec (.Expr (.Call (.Attribute (.Name y p) (sN "append") apos) [arg] [] pos) epos) env) Q E s := by
  have hform : methodCallForm ([arg].length + ([] : List Keyword).length) (backTo pos (starEach [arg] env)) (backToKw pos (keywordEach [] env)) = true := by
    rw [star_plain hst]; rfl
  refine wpAny_Expr (wp_method rfl hline hform (hy _ (Calls.getMethod_list_append e rfl rfl ?_))) hi rfl
  have pl : ∀ {Q' : List Value → Shared → Prop}, wpAny (model PG w) A (eval arg env) (fun v s₁ => Q' [v] s₁) E s → wpAny (model PG w) A (spliced (backTo pos (starEach [arg] env))) Q' E s := fun h => by
    exact wpAny_items_cons (wpAny_mono h (fun v s₁ h₁ => wpAny_items_nil h₁) fun _ _ e => e) (star_plain hst)
  refine callWith_method1 (pl (wpAny_mono h (fun v s₁ ⟨e₁, h₁⟩ => ?_) fun _ _ e => e)) (star_plain hst) rfl
  refine append_at (n := c) (its := vs.toArray) e₁ (fun h' hs hg => ?_) ?_
  · exact h₁ h' (c + 1) hs (by rw [hg]; simp [lstObj])
  · rw [sizeLine_eq]; simp; omega
end
end Mine
end -- H1
section -- H2
set_option maxRecDepth 100000
set_option maxHeartbeats 4000000
namespace Mine
structure RdX where
  beg : List Int
  wr : List (List Nat)
  cap : Nat
  rest : Objs
noncomputable abbrev begN : Str := sN "begun"
noncomputable abbrev worN : Str := sN "words"
structure LedRd (B W : Addr) (e : RdX) (m : Str → Option Value) (own : Objs) : Prop where
  mb : m begN = some (.ref B)
  mw : m worN = some (.ref W)
  own : ∃ bv bc wv wc, own = (B, lstObj bv bc) :: (W, lstObj wv wc) :: e.rest ∧ Sims bv (e.beg.map MV.int) ∧ Sims wv (e.wr.reverse.map MV.str)
  ne : B ≠ W
  off : ∀ p ∈ e.rest, p.1 ≠ B ∧ p.1 ≠ W
  c1 : e.beg.length + e.cap ≤ 100000
  c2 : e.wr.length + e.cap ≤ 100000
  c3 : ∀ l ∈ e.wr, l.length + e.cap ≤ 100000

/-- y[-1] -/
noncomputable def asLast (e : Expr) : Option Str := (asSubs e).bind fun s => (asName s.1).bind fun y => (asUn s.2).bind fun u => (asCInt u.2).bind fun i => cond (isUSub u.1 && i == 1) (some y) none
theorem asLast_eq {e : Expr} {y : Str} (h : asLast e = some y) : ∃ p1 k p2 p3 p4, e = .Subscript (.Name y p1) (.UnaryOp .USub (.Constant (.int 1) k p2) p3) p4 := by
  refine bnd h fun s hs h => bnd h fun z hz h => bnd h fun u hu h => bnd h fun i hi h => cnd h fun c hf => ?_
  obtain ⟨p4, rfl⟩ := asSubs_eq hs
  obtain ⟨p1, e1⟩ := asName_eq hz
  obtain ⟨p3, e2⟩ := asUn_eq hu
  obtain ⟨k, p2, e3⟩ := asCInt_eq hi
  simp only [Bool.and_eq_true, beq_iff_eq] at c
  rw [e1, e2, e3, isUSub_eq c.1, c.2, Option.some.inj hf]
  exact ⟨p1, k, p2, p3, p4, rfl⟩
noncomputable def rdBeg (c : MethC) (g : Expr) (loc : Loc) (x : RdX) : Option (Loc × RdX) := (asBin g).bind fun b => (asName b.1).bind fun k => (asCInt b.2.2).bind fun i => cond (isAdd b.2.1 && i == 1) ((loc.lookup k).bind fun v => (asInt v).bind fun j => match x.cap with
  | n + 1 => some (loc, { x with beg := x.beg ++ [j + 1], cap := n })
  | 0 => none) none
noncomputable def rdNew (t : Str) (loc : Loc) (x : RdX) : Option (Loc × RdX) := cond t.cps.toList.isEmpty (match x.cap with
  | n + 1 => some (loc, { x with wr := [] :: x.wr, cap := n })
  | 0 => none) none
noncomputable def rdLay (q : Expr × Expr) (loc : Loc) (x : RdX) : Option (Loc × RdX) := (asLast q.1).bind fun y => (asBin q.2).bind fun b => (asLast b.1).bind fun z => (asName b.2.2).bind fun v => cond (y == worN && z == worN && isAdd b.2.1) ((loc.lookup v).bind fun u => (asStr u).bind fun l => match x.wr with
  | [] => none
  | wd :: r => match x.cap with
    | 0 => none
    | m + 1 => match m with
      | 0 => none
      | n + 1 => cond (Nat.ble l.length 2) (some (loc, { x with wr := (wd ++ l) :: r, cap := n })) none) none
noncomputable def rdS : Stmt → Loc → RdX → Option (Loc × RdX) := fun st loc x => match asExprS st with
  | some ex => (asMeth ex).bind fun c => (asName c.o).bind fun y => (as1 c.args).bind fun g => cond (c.a == sN "append" && c.line) (match asTxt g with
    | some t => cond (y == worN) (rdNew t loc x) none
    | none => cond (y == begN) (rdBeg c g loc x) none) none
  | none => (asAsg1 st).bind fun q => rdLay q loc x
noncomputable def fRd : FuncData := fdAt 764
theorem ff_rd (w : World) : FnFacts w 764 fRd := ⟨by kernel_rfl, by kernel_rfl⟩
noncomputable abbrev asgR : List Str := [sN "k", sN "sign", sN "laid", sN "mode"]

theorem Sims.app {a b : List Value} {c d : List MV} (h : Sims a c) (k : Sims b d) : Sims (a ++ b) (c ++ d) := by
  induction h with
  | nil => exact k
  | cons h1 _ ih => exact .cons h1 ih
theorem Sims.len {a : List Value} {c : List MV} (h : Sims a c) : a.length = c.length := by
  induction h with
  | nil => rfl
  | cons _ _ ih => simp [ih]
theorem Sims.split {b d : List MV} : ∀ {a : List Value}, Sims a (b ++ d) → ∃ a1 a2, a = a1 ++ a2 ∧ Sims a1 b ∧ Sims a2 d := by
  induction b with
  | nil => intro a h; exact ⟨[], a, rfl, .nil, h⟩
  | cons x b ih =>
    intro a h
    cases h with
    | @cons v _ vs _ h1 h2 =>
      obtain ⟨a1, a2, rfl, q1, q2⟩ := ih h2
      exact ⟨v :: a1, a2, rfl, .cons h1 q1, q2⟩
theorem Sims.get {a : List Value} {c : List MV} (h : Sims a c) {k : Nat} {mv : MV} (e : c[k]? = some mv) : ∃ v, a[k]? = some v ∧ Sim v mv := by
  induction h generalizing k with
  | nil => simp at e
  | cons h1 _ ih =>
    cases k with
    | zero => simp at e; subst e; exact ⟨_, rfl, h1⟩
    | succ k => exact ih (by simpa using e)

theorem LedRd.setB {B W : Addr} {e : RdX} {m : Str → Option Value} {g h h' : Heap} {L : Addr} {bv wv : List Value} {bc wc bc' c : Nat} {v : Value} {i : Int} (D : LedRd B W e m ((B, lstObj bv bc) :: (W, lstObj wv wc) :: e.rest)) (sb : Sims bv (e.beg.map MV.int)) (sw : Sims wv (e.wr.reverse.map MV.str)) (N : News g L h ((B, lstObj bv bc) :: (W, lstObj wv wc) :: e.rest)) (hs : Heap.SameBut B h h')
    (hg : h'.get? B = some (lstObj (bv ++ [v]) bc')) (hv : Sim v (.int i)) (hc : e.cap = c + 1) : News g L h' ((B, lstObj (bv ++ [v]) bc') :: (W, lstObj wv wc) :: e.rest) ∧ LedRd B W { e with beg := e.beg ++ [i], cap := c } m ((B, lstObj (bv ++ [v]) bc') :: (W, lstObj wv wc) :: e.rest) := by
  constructor
  · intro p hp
    rcases List.mem_cons.mp hp with rfl | hp
    · exact ⟨hg, (N _ (.head _)).2⟩
    · have P := N p (.tail _ hp)
      refine ⟨(hs.2 p.1 ?_).trans P.1, P.2⟩
      rcases List.mem_cons.mp hp with rfl | hp
      · exact Ne.symm D.ne
      · exact (D.off p hp).1
  · have c1 := D.c1
    have c2 := D.c2
    have c3 := D.c3
    rw [hc] at c1 c2
    refine ⟨D.mb, D.mw, ⟨_, _, _, _, rfl, ?_, sw⟩, D.ne, D.off, ?_, ?_, ?_⟩
    · rw [List.map_append]; exact sb.app (.cons hv .nil)
    · simp only [List.length_append, List.length_singleton]; omega
    · dsimp only; omega
    · intro l hl; have := c3 l hl; rw [hc] at this; dsimp only; omega
theorem LedRd.setW {B W : Addr} {e : RdX} {m : Str → Option Value} {g h h' : Heap} {L : Addr} {bv wv wv' : List Value} {bc wc wc' c : Nat} {wr' : List (List Nat)} (D : LedRd B W e m ((B, lstObj bv bc) :: (W, lstObj wv wc) :: e.rest)) (sb : Sims bv (e.beg.map MV.int)) (N : News g L h ((B, lstObj bv bc) :: (W, lstObj wv wc) :: e.rest)) (hs : Heap.SameBut W h h')
    (hg : h'.get? W = some (lstObj wv' wc')) (sw : Sims wv' (wr'.reverse.map MV.str)) (hc : c ≤ e.cap) (c2 : wr'.length + c ≤ 100000) (c3 : ∀ l ∈ wr', l.length + c ≤ 100000) : News g L h' ((B, lstObj bv bc) :: (W, lstObj wv' wc') :: e.rest) ∧ LedRd B W { e with wr := wr', cap := c } m ((B, lstObj bv bc) :: (W, lstObj wv' wc') :: e.rest) := by
  constructor
  · intro p hp
    rcases List.mem_cons.mp hp with rfl | hp
    · exact ⟨(hs.2 B D.ne).trans (N _ (.head _)).1, (N _ (.head _)).2⟩
    · rcases List.mem_cons.mp hp with rfl | hp
      · exact ⟨hg, (N _ (.tail _ (.head _))).2⟩
      · have P := N p (.tail _ (.tail _ hp))
        exact ⟨(hs.2 p.1 (D.off p hp).2).trans P.1, P.2⟩
  · have c1 := D.c1
    exact ⟨D.mb, D.mw, ⟨_, _, _, _, rfl, sb, sw⟩, D.ne, D.off, (by dsimp only; omega), c2, c3⟩

section
variable {w : World} {mg mb : Str → Option Value} {A : Around} {s : Shared} {B W L : Addr} {g : Heap}
theorem rdHooks (hk : fRd.scope.kind = .function) :
    ∀ {E : Value → Shared → Prop} {loc x s₁ st loc' x'} {Q : Flow → Shared → Prop}, RF s g (envAt fRd L 764) L (LedRd B W) loc x s₁ → rdS st loc x = some (loc', x') → (∀ s', RF s g (envAt fRd L 764) L (LedRd B W) loc' x' s' → Q .next s') → wpAny (model PG w) A (exec st (envAt fRd L 764)) Q E s₁ := by
  intro E loc x s₁ st loc' x' Q hR h hQ
  unfold rdS at h
  cases hx : asExprS st with
  | some ex =>
    rw [hx] at h
    refine bnd h fun c hc h => bnd h fun y hy h => bnd h fun g hg h => cnd h fun q g1 => ?_
    clear h
    obtain ⟨ep, rfl⟩ := asExprS_eq hx
    obtain rfl := asMeth_eq hc
    obtain ⟨o, a, ap, args, p⟩ := c
    obtain ⟨yp, e0⟩ := asName_eq hy
    have e2 := as1_eq hg
    dsimp only at e0 e2 q
    subst e0 e2
    simp only [Bool.and_eq_true, beq_iff_eq] at q
    obtain ⟨rfl, q3⟩ := q
    obtain ⟨h1, m, own, F, N, l, D⟩ := hR
    obtain ⟨bv, bc, wv, wc, rfl, sb, sw⟩ := D.own
    clear hx hc hg
    cases ht : asTxt g with
    | none =>
      rw [ht] at g1
      refine cnd g1 fun q h => bnd h fun b hb h => bnd h fun k hk' h => bnd h fun i hi h => cnd h fun q2 h => bnd h fun u hl h => bnd h fun j hj g2 => ?_
      clear ht
      cases eq_of_beq q
      obtain ⟨bp, rfl⟩ := asBin_eq hb
      obtain ⟨kp, e1⟩ := asName_eq hk'
      obtain ⟨ck, cp, e2⟩ := asCInt_eq hi
      simp only [Bool.and_eq_true, beq_iff_eq] at q2
      obtain ⟨b1, b2, b3⟩ := b
      dsimp only at e1 e2 q2
      have e3 := isAdd_eq q2.1
      have e4 := q2.2
      subst e1 e3 e4 e2
      rw [asInt_eq hj] at hl
      cases hcap : x.cap with
      | zero => rw [hcap] at g2; exact nomatch (show none = some (loc', x') from g2)
      | succ c =>
        rw [hcap] at g2
        cases (Option.some.inj g2)
        obtain ⟨vk, hvk, hsk, hkk, hdk⟩ := l _ _ hl
        obtain ⟨tk, rfl⟩ := hsk
        have hlen : bv.length ≤ 1000000 := by have := D.c1; rw [sb.len, List.length_map]; omega
        refine st_append (vs := bv) (c := bc) q3 rfl rfl (fun Q' hq => ld F D.mb hq hk rfl rfl) (N _ (.head _)).1 hlen ?_
        refine wpAny_BinOp (ld F hvk (wpAny_Constant_int (P.add_int ⟨(N _ (.head _)).1, fun h' c' hs hg => hQ _ ?_⟩)) hk hkk hdk)
        obtain ⟨N', D'⟩ := D.setB sb sw N hs hg ⟨_, rfl⟩ hcap
        exact ⟨h1.put _ _, m, _, F.change hs (N _ (.head _)).2.1 (N _ (.head _)).2.2, N', l, D'⟩
    | some t =>
      rw [ht] at g1
      refine cnd g1 fun q h => cnd h fun q2 g2 => ?_
      cases eq_of_beq q
      obtain ⟨ck, cp, rfl⟩ := asTxt_eq ht
      obtain ⟨⟨tl⟩⟩ := t
      cases (List.isEmpty_iff.mp q2)
      cases hcap : x.cap with
      | zero => rw [hcap] at g2; exact nomatch (show none = some (loc', x') from g2)
      | succ c =>
        rw [hcap] at g2
        cases (Option.some.inj g2)
        have c2 := D.c2
        rw [hcap] at c2
        have hlen : wv.length ≤ 1000000 := by rw [sw.len, List.length_map, List.length_reverse]; omega
        refine st_append (vs := wv) (c := wc) q3 rfl rfl (fun Q' hq => ld F D.mw hq hk rfl rfl) (N _ (.tail _ (.head _))).1 hlen ?_
        refine wpAny_Constant_str ⟨(N _ (.tail _ (.head _))).1, fun h' c' hs hg => hQ _ ?_⟩
        obtain ⟨N', D'⟩ := D.setW (c := c) (wr' := [] :: x.wr) sb N hs hg (by rw [List.reverse_cons, List.map_append]; exact sw.app (.cons ⟨_, rfl⟩ .nil)) (by omega) (by simp only [List.length_cons]; omega) (fun l hl => by
          rcases List.mem_cons.mp hl with rfl | hl
          · simp only [List.length_nil]; omega
          · have := D.c3 l hl; omega)
        exact ⟨h1.put _ _, m, _, F.change hs (N _ (.tail _ (.head _))).2.1 (N _ (.tail _ (.head _))).2.2, N', l, D'⟩
  | none =>
    rw [hx] at h
    clear hx
    refine bnd h fun q0 hq0 h => bnd h fun y hy h => bnd h fun b hb h => bnd h fun z hz h => bnd h fun v hv h => cnd h fun q h => bnd h fun u hl h => bnd h fun lt hlt g1 => ?_
    obtain ⟨p8, rfl⟩ := asAsg1_eq hq0
    obtain ⟨p1, k1, p2, p3, p4, e1⟩ := asLast_eq hy
    obtain ⟨p5, e2⟩ := asBin_eq hb
    obtain ⟨p6, k2, p7, p9, p10, e3⟩ := asLast_eq hz
    obtain ⟨vp, e4⟩ := asName_eq hv
    simp only [Bool.and_eq_true, beq_iff_eq] at q
    obtain ⟨⟨q1, q2⟩, q3⟩ := q
    rw [e1, e2, e3, e4, q1, q2, isAdd_eq q3]
    rw [asStr_eq hlt] at hl
    cases hwr : x.wr with
    | nil => rw [hwr] at g1; exact nomatch (show none = some (loc', x') from g1)
    | cons wd r =>
      rw [hwr] at g1
      cases hc : x.cap with
      | zero => rw [hc] at g1; exact nomatch (show none = some (loc', x') from g1)
      | succ m' =>
        rw [hc] at g1
        cases m' with
        | zero => exact nomatch (show none = some (loc', x') from g1)
        | succ c =>
          refine cnd (show cond (Nat.ble lt.length 2) (some (loc, { x with wr := (wd ++ lt) :: r, cap := c })) none = some (loc', x') from g1) fun hll h => ?_
          cases (Option.some.inj h)
          have hll := Nat.le_of_ble_eq_true hll
          obtain ⟨h1, m, own, F, N, lr, D⟩ := hR
          obtain ⟨bv, bc, wv, wc, rfl, sb, sw⟩ := D.own
          obtain ⟨vl, hvl, hsl, hkl, hdl⟩ := lr _ _ hl
          obtain ⟨tl, rfl⟩ := hsl
          rw [hwr, List.reverse_cons, List.map_append] at sw
          obtain ⟨wv1, wv2, rfl, sw1, sw2⟩ := sw.split
          obtain ⟨vw, rfl, hvw⟩ : ∃ vw, wv2 = [vw] ∧ Sim vw (.str wd) := by
            cases sw2 with
            | cons a b => cases b; exact ⟨_, rfl, a⟩
          obtain ⟨tw, rfl⟩ := hvw
          have c3 := D.c3 wd (by rw [hwr]; exact .head _)
          have c2 := D.c2
          rw [hwr, List.length_cons] at c2
          refine wpAny_Assign_Subscript (wpAny_BinOp (Subscript_ (ld F D.mw ?_ hk rfl rfl))) rfl
          refine wpAny_UnaryOp (wpAny_Constant_int (P.neg_int ?_))
          refine it_last (vs := wv1) (N _ (.tail _ (.head _))).1 (ld (s := { s₁ with toks := _ }) F hvl ?_ hk hkl hdl)
          refine PyProof.Rows.add_str (fun t' tk => ?_) (by rw [str_len, str_len, sizeLine_eq]; omega)
          refine ld (s := { s₁ with toks := tk }) F D.mw (wpAny_UnaryOp (wpAny_Constant_int (P.neg_int ?_))) hk rfl rfl
          refine set_last (vs := wv1) (N _ (.tail _ (.head _))).1 fun h' c' hs hg => hQ _ ?_
          rw [str_app] at hg
          obtain ⟨N', D'⟩ := D.setW (c := c) (wr' := (wd ++ lt) :: r) sb N hs hg (by rw [List.reverse_cons, List.map_append]; exact sw1.app (.cons ⟨_, rfl⟩ .nil)) (by omega) (by simp only [List.length_cons]; omega) (fun l' hl' => by
            rcases List.mem_cons.mp hl' with rfl | hl'
            · rw [List.length_append]; omega
            · have := D.c3 l' (by rw [hwr]; exact .tail _ hl'); omega)
          exact ⟨h1.put _ _, m, _, F.change hs (N _ (.tail _ (.head _))).2.1 (N _ (.tail _ (.head _))).2.2, N', lr, D'⟩
end
end Mine
end -- H2
section -- H3
set_option maxRecDepth 100000
set_option maxHeartbeats 4000000
namespace Mine
/-- the modes of the law's own reading -/
inductive RM where
  | gap | word | sq | dq | esc | within
noncomputable def rmL : RM → List Nat
  | .gap => [103, 97, 112]
  | .word => [119, 111, 114, 100]
  | .sq => [39]
  | .dq => [34]
  | .esc => [92]
  | .within => [119, 105, 116, 104, 105, 110]
/-- one sign: the mode behind it, whether a word begins, what is laid -/
noncomputable def rturn (md : RM) (c : Nat) : RM × Bool × List Nat := match md with
  | .gap => if isWs c then (.gap, false, []) else if c == 39 then (.sq, true, []) else if c == 34 then (.dq, true, []) else if c == 92 then (.esc, true, []) else (.word, true, [c])
  | .word => if isWs c then (.gap, false, []) else if c == 39 then (.sq, false, []) else if c == 34 then (.dq, false, []) else if c == 92 then (.esc, false, []) else (.word, false, [c])
  | .esc => (.word, false, [c])
  | .within => (.dq, false, if c == 34 || c == 92 then [c] else [92, c])
  | .sq => if c == 39 then (.word, false, []) else (.sq, false, [c])
  | .dq => if c == 34 then (.word, false, []) else if c == 92 then (.within, false, []) else (.dq, false, [c])
noncomputable def layOn (l : List Nat) (wr : List (List Nat)) : List (List Nat) := match l with
  | [] => wr
  | _ :: _ => match wr with
    | [] => []
    | wd :: r => (wd ++ l) :: r
noncomputable def rdNext (r : RM × Bool × List Nat) (i : Int) (beg : List Int) (wr : List (List Nat)) (cap : Nat) (rest : Objs) : RdX :=
  ⟨match r.2.1 with | true => beg ++ [i + 1] | false => beg, layOn r.2.2 (match r.2.1 with | true => [] :: wr | false => wr), match r.2.1, r.2.2 with | false, [] => cap + 4 | true, [] => cap + 2 | false, _ :: _ => cap + 2 | true, _ :: _ => cap, rest⟩
noncomputable def rdFace (w : World) : Face RdX := plainFace w fRd.scope asgR noE rdS noC
noncomputable def rdFor : Stmt := stAt (bodyOf fRd) 3
noncomputable def forB : Stmt → List Stmt
  | .For _ _ b _ _ => b
  | _ => []
noncomputable def rdTail : List Stmt := (forB rdFor).drop 1
noncomputable def locR (l : List Nat) (md : RM) (i : Int) (c : Nat) : Loc := [(sN "text", .str l), (sN "mode", .str (rmL md)), (sN "k", .int i), (sN "sign", .str [c])]
noncomputable def getL2 {ε : Type} : Option (PFlow × Loc × ε × List Nat) → Loc
  | some (_, l, _, _) => l
  | _ => []
noncomputable def getO {ε : Type} : Option (PFlow × Loc × ε × List Nat) → List Nat
  | some (_, _, _, o) => o
  | _ => []
structure RdOk (w : World) (l : List Nat) (md : RM) (i : Int) (c : Nat) (beg : List Int) (wr : List (List Nat)) (cap : Nat) (rest : Objs) : Prop where
  run : pexec (rdFace w) 60 rdTail (locR l md i c) ⟨beg, wr, cap + 4, rest⟩ = some (.next, locR l (rturn md c).1 i c ++ [(sN "laid", .str (rturn md c).2.2)], rdNext (rturn md c) i beg wr cap rest, getO (pexec (rdFace w) 60 rdTail (locR l md i c) ⟨beg, wr, cap + 4, rest⟩))
  o : ((getO (pexec (rdFace w) 60 rdTail (locR l md i c) ⟨beg, wr, cap + 4, rest⟩)).all (Nat.ble · 10)) = true
theorem rd_all (w : World) (l : List Nat) (md : RM) (i : Int) (c : Nat) (hc : c ∈ alpha) (beg : List Int) (wr : List (List Nat)) (cap : Nat) (rest : Objs) (hw : match md with | .gap => True | _ => wr ≠ []) : RdOk w l md i c beg wr cap rest := by
  simp only [alpha, List.mem_cons, List.not_mem_nil, or_false] at hc
  cases md with
  | gap => rcases hc with rfl | rfl | rfl | rfl | rfl | rfl | rfl | rfl <;> exact ⟨by kernel_rfl, by kernel_rfl⟩
  | _ =>
    cases wr with
    | nil => exact absurd rfl hw
    | cons wd r => rcases hc with rfl | rfl | rfl | rfl | rfl | rfl | rfl | rfl <;> exact ⟨by kernel_rfl, by kernel_rfl⟩
end Mine
end -- H3
section -- H4
set_option maxRecDepth 100000
set_option maxHeartbeats 4000000
namespace Mine
section
variable {w : World} {A : Around} {env : Env} {s : Shared}
noncomputable abbrev riObj (x left step : Int) : Obj := { cls := .type "range_iterator", data := .fields #[rawInt x, rawInt left, rawInt step] }
/-- for x in range(a, a + n), nothing is raised -/
theorem for_range {E : Value → Shared → Prop} {Q : Flow → Shared → Prop} {x : Str} {px pos : Pos} {iter : Expr} {body : List Stmt} {n : Nat} (hh : A.handled = none) (hs : ∀ x, foldedSetIterable iter env x = pure x)
    (Inv : Addr → Nat → Shared → Prop)
    (h : wpAny (model PG w) A (eval iter env) (fun xv s₁ => ∃ r t u v, xv = .ref r ∧ IsRange s₁.heap r 0 n 1 t u v ∧ n < 2 ^ 60 ∧ ∀ I s₂, SameRest s₁ s₂ → s₁.heap.StaysIn s₂.heap → s₁.heap.get? I = none → s₂.heap.get? I = some (riObj 0 n 1) → Inv I 0 s₂) (fun _ _ => False) s)
    (hI : ∀ I i s', Inv I i s' → s'.heap.get? I = some (riObj i (n - i) 1))
    (hend : ∀ I s' h', Inv I n s' → (∀ b o, b ≠ I → s'.heap.get? b = some o → h'.get? b = some o) → Q .next { s' with heap := h' })
    (step : ∀ I i s' h' tk, i < n → Inv I i s' → h'.get? I = some (riObj (i + 1) (n - (i + 1)) 1) → Heap.SameBut I s'.heap h' →
      wpAny (model PG w) A (assign (.Name x px) env (.int i tk)) (fun _ s₂ => wpAny (model PG w) A (execs body env) (fun f s₃ => (f = .next ∨ f = .cont) ∧ Inv I (i + 1) s₃) (fun _ _ => False) s₂) (fun _ _ => False) { s' with heap := h', toks := tk + 1 }) :
    wpAny (model PG w) A (exec (.For (.Name x px) iter body [] pos) env) Q E s := by
  refine wpAny_mono (E := fun _ _ => False) ?_ (fun _ _ z => z) (fun _ _ z => z.elim)
  refine wpAny_For (wpAny_mono h (fun xv s₁ h₁ => ?_) fun _ _ e => e) hs
  obtain ⟨r, t, u, v, rfl, hr, hn, h0⟩ := h₁
  have hsz : Builtin.Range.rangeSize 0 n 1 = n := by rw [rangeSize_one]; split <;> omega
  refine wpAny_pyIter_range hr (small_one (by omega) (by omega) (by omega) (by omega)) ?_
  rw [hsz]
  have hI0 : Inv s₁.heap.objs.size 0 { s₁ with heap := s₁.heap.push (riObj 0 n 1) } := h0 _ _ ⟨rfl, rfl, rfl⟩ (fun b o e => Heap.get?_push_of_some _ e) (Heap.get?_none_of_le (Nat.le_refl _)) (Heap.get?_push_size _ rfl)
  refine codeAny_forLoop (fun k s' => ∃ i, i ≤ n ∧ k = n + 1 - i ∧ Inv s₁.heap.objs.size i s') ?_ (n + 1) ⟨0, Nat.zero_le _, rfl, hI0⟩
  rintro k s' ⟨i, hi, rfl, hv⟩
  have hit := hI _ _ _ hv
  by_cases hlt : i < n
  · refine wpAny_pyNext_range_item hit (by omega) fun h₁ hit₁ hs₁ => ?_
    have e2 : (n : Int) - (i : Int) - 1 = n - (i + 1) := by omega
    rw [e2] at hit₁
    refine wpAny_mono (wpAny_mono (step _ i s' h₁ s'.toks hlt hv hit₁ hs₁) (fun _ s₂ z => wpAny_mono z (fun f s₃ z => ?_) fun _ _ z => z.elim) fun _ _ z => z.elim) (fun _ _ z => z) (fun _ _ z => z)
    obtain ⟨hf, hv'⟩ := z
    rcases hf with rfl | rfl <;> exact ⟨n + 1 - (i + 1), by omega, i + 1, hlt, rfl, hv'⟩
  · have hin : i = n := by omega
    subst hin
    refine wpAny_pyNext_range_end hh hit (by omega) fun h₁ he₁ => wpAny_execs_nil ?_
    exact hend _ s' h₁ hv fun b o hb e => he₁ b o hb e
end
end Mine
end -- H4
section -- H5
set_option maxRecDepth 100000
set_option maxHeartbeats 4000000
namespace Mine
section
variable {w : World} {mg mb : Str → Option Value} {b₀ : Heap} {A : Around} {s : Shared} {fd : FuncData} {f : Addr} {R : Result → Shared → Prop}
/-- a def of the text is called; what it makes is kept in the ledger -/
theorem enterP (args : Args) (names : List Str) {vs : List Value} {mvs : List MV} (asg : List Str) (Bs : Base w mg mb b₀) (sy : b₀.StaysIn s.heap) (ff : FnFacts w f fd) (hroom : A.depth < recursionLimit) (hs : Sims vs mvs)
    (hb : runK (KK w) 100 (bindArgs fd args) = some (names.zip vs)) (hn : namesOk fd.scope names = true) (hasg : asgOk fd.scope asg = true)
    (h : ∀ L s₁, (∀ E, FaceOk (plainFace w fd.scope asg noE noS noC) PG w (A.deeper (envAt fd L f)) (envAt fd L f) E (RF s s.heap (envAt fd L f) L LedP)) → RF s s.heap (envAt fd L f) L LedP (names.zip mvs) [] s₁ → s.heap.get? L = none → fd.scope.kind = .function →
      wpAny (model PG w) (A.deeper (envAt fd L f)) (execs (bodyOf fd) (envAt fd L f)) (fun fl s' => R (.ok (.ret (flowV fl))) s')
        (fun e s' => wpAny (model PG w) (A.deeper (envAt fd L f)) (leaving (envAt fd L f) e) (fun _ s'' => R (.error e) s'') (fun e' s'' => R (.error e') s'') s') s₁) :
    codeAny (model PG w) A (.call (.ref f) args) R s := by
  refine enterF [] Bs sy ff hroom (binds_run (Bs.keeps sy) 100 hb) (namesOk_locs hn _) (fun _ h => nomatch h) fun L h₁ F N stg hL hL0 hk => ?_
  have F : Fr s.heap L h₁ (fun y => (names.zip vs).reverse.lookup y) := F
  have N : News s.heap L h₁ [] := N
  have ok := fun E => frameOk (A := A.deeper (envAt fd L f)) (E := E) hk
    (plainHyp (ε := Objs) (hookE := noE) (hookS := noS) (callV := noC) (Led := LedP) (qual := fd.qualname) (sc := fd.scope) (L := L) (f := f) (cd := fd.code) (s₀ := s) (asg := asg) (Bs.keeps sy) hk hasg (fun _ _ _ _ _ _ h => h)
      (fun _ h => by cases h) (fun _ h => by cases h) (fun _ h => by cases h))
  have l := locRel_init (env := envAt fd L f) names vs mvs (namesOk_nodup hn) hs (namesOk_mem hn)
  refine wpAny_mono (h L { s with heap := h₁, toks := s.toks + (names.zip vs).length } ok ⟨⟨rfl, rfl, rfl⟩, _, [], F, N, l, rfl⟩ hL hk) (fun fl s' q => ?_) fun _ _ q => q
  cases fl <;> exact q
/-- an empty list -/
theorem nil_list {env : Env} {E : Value → Shared → Prop} {pos : Pos} {Q : Value → Shared → Prop} (h : ∀ a s', SameRest s s' → s.heap.StaysIn s'.heap → s.heap.get? a = none → s'.heap.get? a = some (lstObj [] 0) → Q (.ref a) s') : wpAny (model PG w) A (eval (.List [] pos) env) Q E s := by
  refine wpAny_List (wpAny_items_nil ⟨Nat.zero_le _, ?_⟩)
  exact h _ _ ⟨rfl, rfl, rfl⟩ (fun b o e => Heap.get?_push_of_some _ e) (Heap.get?_none_of_le (Nat.le_refl _)) (Heap.get?_push_size _ rfl)
end

/-- the law's reading -/
noncomputable def rdGo : List Nat → Nat → RM → List Int → List (List Nat) → RM × List Int × List (List Nat)
  | [], _, md, beg, wr => (md, beg, wr)
  | c :: r, i, md, beg, wr => rdGo r (i + 1) (rturn md c).1 (match (rturn md c).2.1 with | true => beg ++ [(i : Int) + 1] | false => beg) (layOn (rturn md c).2.2 (match (rturn md c).2.1 with | true => [] :: wr | false => wr))
theorem rturn_ok (md : RM) (c : Nat) (wr : List (List Nat)) (hw : match md with | .gap => True | _ => wr ≠ []) : match (rturn md c).1 with | .gap => True | _ => layOn (rturn md c).2.2 (match (rturn md c).2.1 with | true => [] :: wr | false => wr) ≠ [] := by
  cases md <;> simp only [rturn]
  case gap => (repeat' split) <;> simp_all [layOn]
  case word => cases wr with
    | nil => exact absurd rfl hw
    | cons a b => (repeat' split) <;> simp_all [layOn]
  case sq => cases wr with
    | nil => exact absurd rfl hw
    | cons a b => (repeat' split) <;> simp_all [layOn]
  case dq => cases wr with
    | nil => exact absurd rfl hw
    | cons a b => (repeat' split) <;> simp_all [layOn]
  case esc => cases wr with
    | nil => exact absurd rfl hw
    | cons a b => simp [layOn]
  case within => cases wr with
    | nil => exact absurd rfl hw
    | cons a b => (repeat' split) <;> simp_all [layOn]

noncomputable abbrev rdAs (y : Str) (k b : Nat) : Stmt := .Assign [.Name y (PS k 4 k b)] (.List [] (PS k (b + 3) k (b + 5))) (PS k 4 k (b + 5))
theorem rd0 : stAt (bodyOf fRd) 0 = rdAs begN 775 9 := by kernel_rfl
theorem rd1 : stAt (bodyOf fRd) 1 = rdAs worN 776 9 := by kernel_rfl
noncomputable abbrev rdForS : Stmt := .For (.Name (sN "k") (PS 778 8 778 9)) (.Call (.Name (sN "range") (PS 778 13 778 18)) [.Call (.Name (sN "len") (PS 778 19 778 22)) [.Name (sN "text") (PS 778 23 778 27)] [] (PS 778 19 778 28)] [] (PS 778 13 778 29)) (forB rdFor) [] (PS 778 4 805 40)
theorem rd3 : stAt (bodyOf fRd) 3 = rdForS := by kernel_rfl
noncomputable abbrev rdSg : Stmt := .Assign [.Name (sN "sign") (PS 779 8 779 12)] (.Subscript (.Name (sN "text") (PS 779 15 779 19)) (.Name (sN "k") (PS 779 20 779 21)) (PS 779 15 779 22)) (PS 779 8 779 22)
theorem rdB0 : stAt (forB rdFor) 0 = rdSg := by kernel_rfl
noncomputable abbrev rdRet : Stmt := .Return (some (.List [.Name begN (PS 806 12 806 17), .Name worN (PS 806 19 806 24), .Name (sN "mode") (PS 806 26 806 30)] (PS 806 11 806 31))) (PS 806 4 806 31)
theorem rd4 : (bodyOf fRd).drop 4 = [rdRet] := by kernel_rfl
end Mine
end -- H5
section -- H6
set_option maxRecDepth 100000
set_option maxHeartbeats 4000000
namespace Mine
theorem lookup_sub {l l' : Loc} (h : ∀ p ∈ l', l.lookup p.1 = some p.2) : ∀ {y : Str} {v : MV}, l'.lookup y = some v → l.lookup y = some v := by
  intro y v hy
  have : (y, v) ∈ l' := by
    clear h
    induction l' with
    | nil => simp at hy
    | cons a r ih =>
      obtain ⟨z, u⟩ := a
      rw [List.lookup_cons] at hy
      by_cases e : y = z
      · subst e; simp at hy; subst hy; exact .head _
      · have e' : (y == z) = false := beq_eq_false_iff_ne.mpr e
        rw [e'] at hy
        exact .tail _ (ih hy)
  exact h _ this
section
variable {w : World} {mg mb : Str → Option Value} {b₀ : Heap} {A : Around} {s : Shared} {R : Result → Shared → Prop} {l : List Nat} {t : Value}
/-- the reading's answer stands in the heap -/
structure RdOut (l : List Nat) (s s' : Shared) (T B W : Addr) : Prop where
  rest : SameRest s s'
  keep : s.heap.StaysIn s'.heap
  t0 : s.heap.get? T = none
  b0 : s.heap.get? B = none
  w0 : s.heap.get? W = none
  bw : B ≠ W
  tb : T ≠ B
  tw : T ≠ W
  ht : ∃ v c, s'.heap.get? T = some (lstObj [.ref B, .ref W, v] c) ∧ Sim v (.str (rmL (rdGo l 0 .gap [] []).1))
  hb : ∃ vs c, s'.heap.get? B = some (lstObj vs c) ∧ Sims vs ((rdGo l 0 .gap [] []).2.1.map MV.int)
  hw : ∃ vs c, s'.heap.get? W = some (lstObj vs c) ∧ Sims vs ((rdGo l 0 .gap [] []).2.2.reverse.map MV.str)
theorem rd_c (Bs : Base w mg mb b₀) (sy : b₀.StaysIn s.heap) (hroom : A.depth < 900) (hh : A.handled = none) (ht : Sim t (.str l)) (hlen : l.length ≤ 10000) (hal : ∀ c ∈ l, c ∈ alpha)
    (post : ∀ T B W s', RdOut l s s' T B W → R (.ok (.ret (.ref T))) s') : codeAny (model PG w) A (.call (.ref 764) ⟨[t], []⟩) R s := by
  have hrl : recursionLimit = 1000 := rfl
  refine enterP _ [sN "text"] (vs := [t]) (mvs := [.str l]) [begN, worN, sN "mode"] Bs sy (ff_rd w) (by omega) (.cons ht .nil) (by kernel_rfl) (by kernel_rfl) (by kernel_rfl) fun L s₁ ok hR hL hk => ?_
  show wpAny _ _ (execs ((bodyOf fRd).drop 0) _) _ _ _
  refine st_exec _ (by kernel_rfl) rd0 (xasgN (ok _) rfl (by kernel_rfl) (nil_list fun B s₂ hr₂ hk₂ hB0 hB => ?_))
  have hR₂ := hR.addP hk₂ hr₂ [(B, lstObj [] 0)] (fun p hp => by rw [List.mem_singleton.mp hp]; exact ⟨hB0, hB⟩)
  refine ⟨.val (.ref B), _, _, rfl, hR₂, fun s₃ hR₃ => ?_⟩
  refine st_exec _ (by kernel_rfl) rd1 (xasgN (ok _) rfl (by kernel_rfl) (nil_list fun W s₄ hr₄ hk₄ hW0 hW => ?_))
  have hR₄ := hR₃.addP hk₄ hr₄ [(W, lstObj [] 0)] (fun p hp => by rw [List.mem_singleton.mp hp]; exact ⟨hW0, hW⟩)
  refine ⟨.val (.ref W), _, _, rfl, hR₄, fun s₅ hR₅ => ?_⟩
  have hBW : B ≠ W := fun q => by
    obtain ⟨_, m, own, F, N, lr, e⟩ := hR₃
    cases e
    have := (N _ (.head _)).1
    rw [← q] at hW0
    rw [hW0] at this; cases this
  refine xseg (ok _) 20 [(sN "text", .str l), (begN, .val (.ref B)), (worN, .val (.ref W)), (sN "mode", .str (rmL .gap))] [(W, lstObj [] 0), (B, lstObj [] 0)] [] 1 (by kernel_rfl) (fun _ h => nomatch h) hR₅ fun s₆ hR₆ => ?_
  show wpAny _ _ (execs ((bodyOf fRd).drop 3) _) _ _ _
  have Bg := Bs.keeps sy
  have okR := fun E => frameOk (A := A.deeper (envAt fRd L 764)) (E := E) hk
    (plainHyp (ε := RdX) (hookE := noE) (hookS := rdS) (callV := noC) (Led := LedRd B W) (qual := fRd.qualname) (sc := fRd.scope) (L := L) (f := 764) (cd := fRd.code) (s₀ := s) (asg := asgR) Bg hk (by kernel_rfl) (fun x m own y v hy h => by
      have ne : ∀ z : Str, asgR.contains z = true → begN ≠ z ∧ worN ≠ z := fun z hz => by
        simp only [asgR, List.contains_iff_mem, List.mem_cons, List.not_mem_nil, or_false] at hz
        rcases hz with rfl | rfl | rfl | rfl <;> exact ⟨by decide, by decide⟩
      exact ⟨by simp only [if_neg (ne y hy).1]; exact h.mb, by simp only [if_neg (ne y hy).2]; exact h.mw, h.own, h.ne, h.off, h.c1, h.c2, h.c3⟩)
      (fun _ h => by cases h) (rdHooks hk) (fun _ h => by cases h))
  refine st_exec _ (by kernel_rfl) rd3 (for_range (n := l.length) hh (fun _ => rfl) (fun I i s' => ∃ md beg wr cap, i ≤ l.length ∧ (match md with | RM.gap => True | _ => wr ≠ []) ∧ 4 * (l.length - i) ≤ cap ∧ rdGo (l.drop i) i md beg wr = rdGo l 0 .gap [] [] ∧
    RF s s.heap (envAt fRd L 764) L (LedRd B W) [(sN "text", .str l), (sN "mode", .str (rmL md))] ⟨beg, wr, cap, [(I, riObj i (l.length - i) 1)]⟩ s') ?_ ?_ ?_ ?_)
  · refine wp_callG (ok _) 20 (fv := .type "range") (mvs := [.int l.length]) (x' := [(W, lstObj [] 0), (B, lstObj [] 0)]) (o := [l.length]) (by kernel_rfl) (by kernel_rfl) (by simp; rw [sizeLine_eq]; omega) hR₆ fun vs s₇ hv hR₇ => ?_
    cases hv with | cons a b =>
    cases b
    obtain ⟨tv, rfl⟩ := a
    refine call_range_1 ⟨_, _, _, _, rfl, IsRange.new _ _ _ _ _ _ _, by omega, fun I s₈ hr₈ hk₈ hI0 hI => ?_⟩
    refine ⟨.gap, [], [], 4 * l.length, Nat.zero_le _, trivial, by omega, rfl, ?_⟩
    have kk : s₇.heap.StaysIn s₈.heap := fun b o e => hk₈ b o (Heap.get?_push_of_some _ e)
    obtain ⟨h1, m, own, F, N, lr, e⟩ := hR₇
    cases e
    obtain ⟨vb, hvb, hsb, _⟩ := lr begN (.val (.ref B)) (by kernel_rfl)
    obtain ⟨vw, hvw, hsw, _⟩ := lr worN (.val (.ref W)) (by kernel_rfl)
    cases hsb
    cases hsw
    have I7 : s₇.heap.get? I = none := by
      cases q : s₇.heap.get? I with
      | none => rfl
      | some o => rw [Heap.get?_push_of_some _ q] at hI0; cases hI0
    have hIB : I ≠ B := fun q => by have := (N _ (.tail _ (.head _))).1; dsimp only at this; rw [← q, I7] at this; cases this
    have hIW : I ≠ W := fun q => by have := (N _ (.head _)).1; dsimp only at this; rw [← q, I7] at this; cases this
    have hIL : I ≠ L := fun q => by obtain ⟨o, _, _, e, _⟩ := F.ns; rw [← q, I7] at e; cases e
    have hIg : s.heap.get? I = none := by
      cases q : s.heap.get? I with
      | none => rfl
      | some o => rw [F.keep _ _ q] at I7; cases I7
    refine ⟨h1.trans ⟨hr₈.gens, hr₈.drawn, hr₈.os⟩, m, [(B, lstObj [] 0), (W, lstObj [] 0), (I, riObj 0 l.length 1)], frAfter (fp := []) F (fun b o e _ => kk b o e) (fun _ q => nomatch q), fun p hp => ?_, fun y mv hy => lr y mv ?_,
      ⟨hvb, hvw, ⟨[], 0, [], 0, ?_, .nil, .nil⟩, hBW, ?_, by simp; omega, by simp; omega, fun _ h => nomatch h⟩⟩
    · simp only [List.mem_cons, List.not_mem_nil, or_false] at hp
      rcases hp with rfl | rfl | rfl
      · exact ⟨kk _ _ (N _ (.tail _ (.head _))).1, (N _ (.tail _ (.head _))).2⟩
      · exact ⟨kk _ _ (N _ (.head _)).1, (N _ (.head _)).2⟩
      · exact ⟨hI, hIL, hIg⟩
    · exact lookup_sub (l' := [(sN "text", .str l), (sN "mode", .str (rmL .gap))]) (fun p hp => by
        simp only [List.mem_cons, List.not_mem_nil, or_false] at hp
        rcases hp with rfl | rfl <;> kernel_rfl) hy
    · simp
    · intro p hp
      rw [List.mem_singleton.mp hp]
      exact ⟨hIB, hIW⟩
  · rintro I i s' ⟨md, beg, wr, cap, hi, hw, hcap, hgo, hR'⟩
    obtain ⟨h1, m, own, F, N, lr, D⟩ := hR'
    obtain ⟨bv, bc, wv, wc, rfl, sb, sw⟩ := D.own
    exact (N _ (.tail _ (.tail _ (.head _)))).1
  · rintro I s' h' ⟨md, beg, wr, cap, hi, hw, hcap, hgo, hR'⟩ hx
    rw [List.drop_length] at hgo
    have hgo : (md, beg, wr) = rdGo l 0 .gap [] [] := hgo
    obtain ⟨h1, m, own, F, N, lr, D⟩ := hR'
    obtain ⟨bv, bc, wv, wc, rfl, sb, sw⟩ := D.own
    have NI := N _ (.tail _ (.tail _ (.head _)))
    have oI := D.off _ (.head _)
    have F' : Fr s.heap L h' m := frAfter (fp := [I]) F (fun b o e hb => hx b o (fun q => hb (by rw [q]; exact .head _)) e) (fun b hb => by rw [List.mem_singleton.mp hb]; exact NI.2)
    have hB := hx _ _ (Ne.symm oI.1) (N _ (.head _)).1
    have hW := hx _ _ (Ne.symm oI.2) (N _ (.tail _ (.head _))).1
    obtain ⟨vm, hvm, hsm, hkm, hdm⟩ := lr (sN "mode") (.str (rmL md)) (by kernel_rfl)
    rw [rd4]
    refine wpAny_execs_cons (wpAny_Return_some (wpAny_List (wpAny_items_cons (ld F' D.mb (wpAny_items_cons (ld F' D.mw (wpAny_items_cons (ld F' hvm (wpAny_items_nil ⟨by rw [sizeLine_eq]; simp, ?_⟩) hk hkm hdm)) hk rfl rfl)) hk rfl rfl))))
    have nT : h'.get? h'.objs.size = none := Heap.get?_none_of_le (Nat.le_refl _)
    have old : ∀ b o, h'.get? b = some o → b ≠ h'.objs.size := fun b o e q => by rw [q, nT] at e; cases e
    refine post h'.objs.size B W _ ⟨h1.trans ⟨rfl, rfl, rfl⟩, fun b o e => Heap.get?_push_of_some _ (F'.keep b o e), ?_, (N _ (.head _)).2.2, (N _ (.tail _ (.head _))).2.2, hBW, Ne.symm (old _ _ hB), Ne.symm (old _ _ hW), ⟨vm, 0, Heap.get?_push_size _ rfl, by rw [← hgo]; exact hsm⟩, ⟨bv, bc, Heap.get?_push_of_some _ hB, by rw [← hgo]; exact sb⟩, ⟨wv, wc, Heap.get?_push_of_some _ hW, by rw [← hgo]; exact sw⟩⟩
    cases q : s.heap.get? h'.objs.size with
    | none => rfl
    | some o => exact absurd rfl (old _ _ (F'.keep _ _ q))
  · rintro I i s' h' tk hlt ⟨md, beg, wr, cap, hi, hw, hcap, hgo, hR'⟩ hI' hsb
    obtain ⟨h1, m, own, F, N, lr, D⟩ := hR'
    obtain ⟨bv, bc, wv, wc, rfl, sb, sw⟩ := D.own
    have NI := N _ (.tail _ (.tail _ (.head _)))
    have oI := D.off _ (.head _)
    obtain ⟨cap, rfl⟩ : ∃ c, cap = c + 4 := ⟨cap - 4, by omega⟩
    have hR1 : RF s s.heap (envAt fRd L 764) L (LedRd B W) [(sN "text", .str l), (sN "mode", .str (rmL md))] ⟨beg, wr, cap + 4, [(I, riObj (i + 1 : Nat) (l.length - (i + 1 : Nat)) 1)]⟩ { s' with heap := h', toks := tk + 1 } := by
      refine ⟨h1.put _ _, m, (B, lstObj bv bc) :: (W, lstObj wv wc) :: [(I, riObj (i + 1 : Nat) (l.length - (i + 1 : Nat)) 1)], F.change hsb NI.2.1 NI.2.2, fun p hp => ?_, lr, ⟨D.mb, D.mw, ⟨_, _, _, _, rfl, sb, sw⟩, D.ne, ?_, D.c1, D.c2, D.c3⟩⟩
      · simp only [List.mem_cons, List.not_mem_nil, or_false] at hp
        rcases hp with rfl | rfl | rfl
        · exact ⟨(hsb.2 _ (Ne.symm oI.1)).trans (N _ (.head _)).1, (N _ (.head _)).2⟩
        · exact ⟨(hsb.2 _ (Ne.symm oI.2)).trans (N _ (.tail _ (.head _))).1, (N _ (.tail _ (.head _))).2⟩
        · exact ⟨hI', NI.2⟩
      · intro p hp
        rw [List.mem_singleton.mp hp]
        exact oI
    refine PyProof.Rows.assign_Name ((okR _).store (y := sN "k") (mv := .int i) hR1 (by kernel_rfl) ⟨_, rfl⟩ fun s₂ hR2 => ?_)
    show wpAny _ _ (execs ((forB rdFor).drop 0) _) _ _ _
    refine st_exec _ (by kernel_rfl) rdB0 (xasgN (okR _) rfl (by kernel_rfl) (Subscript_ ((okR _).name hR2 (v := .str l) (by kernel_rfl) fun v1 hv1 => (okR _).name hR2 (v := .int i) (by kernel_rfl) fun v2 hv2 => ?_)))
    obtain ⟨t1, rfl⟩ := hv1
    obtain ⟨t2, rfl⟩ := hv2
    refine it_str (List.getElem?_eq_getElem hlt) (by rw [sizeLine_eq]; omega) ?_
    refine ⟨.str [l[i]], _, _, ⟨_, rfl⟩, hR2.toks _, fun s₃ hR3 => ?_⟩
    have T := rd_all w l md i l[i] (hal _ (List.getElem_mem hlt)) beg wr cap [(I, riObj (i + 1 : Nat) (l.length - (i + 1 : Nat)) 1)] hw
    refine xrun (okR _) 60 .next _ _ _ T.run (fun k hk' => ?_) hR3 fun s₄ hR4 fl hfl => ?_
    · have := Nat.le_of_ble_eq_true (List.all_eq_true.mp T.o k hk')
      rw [sizeLine_eq]; omega
    cases fl <;> first | exact hfl.elim | skip
    refine ⟨.inl rfl, (rturn md l[i]).1, (match (rturn md l[i]).2.1 with | true => beg ++ [(i : Int) + 1] | false => beg), layOn (rturn md l[i]).2.2 (match (rturn md l[i]).2.1 with | true => [] :: wr | false => wr), cap, by omega, rturn_ok md l[i] wr hw, by omega, ?_, ?_⟩
    rotate_left
    · have hR5 := hR4.forget (loc' := [(sN "text", .str l), (sN "mode", .str (rmL (rturn md l[i]).1))]) fun y v hy => lookup_sub (fun p hp => by
        simp only [List.mem_cons, List.not_mem_nil, or_false] at hp
        rcases hp with rfl | rfl <;> rfl) hy
      obtain ⟨h1, m, own, F, N, lr, D⟩ := hR5
      have le : cap ≤ (rdNext (rturn md l[i]) i beg wr cap [(I, riObj (i + 1 : Nat) (l.length - (i + 1 : Nat)) 1)]).cap := by
        unfold rdNext
        dsimp only
        split <;> omega
      refine ⟨h1, m, own, F, N, lr, ⟨D.mb, D.mw, D.own, D.ne, D.off, ?_, ?_, fun l' hl' => ?_⟩⟩
      · exact Nat.le_trans (Nat.add_le_add_left le _) D.c1
      · exact Nat.le_trans (Nat.add_le_add_left le _) D.c2
      · exact Nat.le_trans (Nat.add_le_add_left le _) (D.c3 l' hl')
    · rw [← hgo, drop_cons hlt]
      rfl
end
end Mine
end -- H6
section -- H7
set_option maxRecDepth 100000
set_option maxHeartbeats 4000000
namespace Mine
noncomputable def lackOf : RM → List Nat
  | .sq => [39]
  | .dq => [34]
  | .esc => [97]
  | .within => [34, 34]
  | _ => []
noncomputable def modeOf (l : List Nat) : RM := (rdGo l 0 .gap [] []).1
noncomputable def closeT (l : List Nat) : List Nat := l ++ lackOf (modeOf l)
noncomputable def fCl : FuncData := fdAt 771
theorem ff_cl (w : World) : FnFacts w 771 fCl := ⟨by kernel_rfl, by kernel_rfl⟩
noncomputable abbrev clAs : Stmt := .Assign [.Name (sN "mode") (PS 808 4 808 8)] (.Subscript (.Call (.Name (sN "_law_read") (PS 808 11 808 20)) [.Name (sN "text") (PS 808 21 808 25)] [] (PS 808 11 808 26)) (.Constant (.int 2) 0 (PS 808 27 808 28)) (PS 808 11 808 29)) (PS 808 4 808 29)
theorem cl0 : stAt (bodyOf fCl) 0 = clAs := by kernel_rfl
noncomputable def clFace (w : World) : Face Objs := plainFace w fCl.scope [sN "mode"] noE noS noC
noncomputable abbrev locC (l : List Nat) (md : RM) : Loc := [(sN "text", .str l), (sN "mode", .str (rmL md))]
theorem cl_run (w : World) (l : List Nat) (md : RM) : ∃ o, pexec (clFace w) 40 ((bodyOf fCl).drop 1) (locC l md) [] = some (.ret (.str (match md with | .gap | .word => l | _ => l ++ lackOf md)), locC l md, [], o) ∧ ∀ k ∈ o, k ≤ l.length + 2 := by
  cases md
  · exact ⟨[], by kernel_rfl, fun _ h => nomatch h⟩
  · exact ⟨[], by kernel_rfl, fun _ h => nomatch h⟩
  · exact ⟨[l.length + 1], by kernel_rfl, fun k h => by simp at h; omega⟩
  · exact ⟨[l.length + 1], by kernel_rfl, fun k h => by simp at h; omega⟩
  · exact ⟨[l.length + 1], by kernel_rfl, fun k h => by simp at h; omega⟩
  · exact ⟨[l.length + 2], by kernel_rfl, fun k h => by simp at h; omega⟩
section
variable {w : World} {mg mb : Str → Option Value} {b₀ : Heap} {A : Around} {s : Shared} {R : Result → Shared → Prop} {l : List Nat} {t : Value}
theorem cl_c (Bs : Base w mg mb b₀) (sy : b₀.StaysIn s.heap) (hroom : A.depth < 890) (hh : A.handled = none) (ht : Sim t (.str l)) (hlen : l.length ≤ 10000) (hal : ∀ c ∈ l, c ∈ alpha)
    (post : ∀ v s', Sim v (.str (closeT l)) → SameRest s s' → s.heap.StaysIn s'.heap → R (.ok (.ret v)) s') : codeAny (model PG w) A (.call (.ref 771) ⟨[t], []⟩) R s := by
  have hrl : recursionLimit = 1000 := rfl
  refine enterP _ [sN "text"] (vs := [t]) (mvs := [.str l]) [sN "mode"] Bs sy (ff_cl w) (by omega) (.cons ht .nil) (by kernel_rfl) (by kernel_rfl) (by kernel_rfl) fun L s₁ ok hR hL hk => ?_
  show wpAny _ _ (execs ((bodyOf fCl).drop 0) _) _ _ _
  refine st_exec _ (by kernel_rfl) cl0 (xasgN (ok _) rfl (by kernel_rfl) (Subscript_ (wp_callG (ok _) 10 (fv := .ref 764) (mvs := [.str l]) (x' := []) (o := []) (by kernel_rfl) (by kernel_rfl) (fun _ h => nomatch h) hR fun vs s₂ hv hR₂ => ?_)))
  cases hv with | cons a b =>
  cases b
  have sy₂ : b₀.StaysIn s₂.heap := by
    obtain ⟨_, m, own, F, _⟩ := hR₂
    exact fun b o e => F.keep b o (sy b o e)
  refine wpAny_call (rd_c Bs sy₂ (by show A.depth + 1 < 900; omega) hh a hlen hal fun T B W s₃ ho => ?_)
  obtain ⟨vm, cT, hT, hvm⟩ := ho.ht
  refine wpAny_Constant_int (it_list (k := 2) (vs := [.ref B, .ref W, vm]) hT (by decide) (by decide) rfl ?_)
  refine ⟨.str (rmL (modeOf l)), _, _, hvm, (hR₂.grow ho.keep ho.rest).toks _, fun s₄ hR₄ => ?_⟩
  obtain ⟨o, hrun, hob⟩ := cl_run w l (modeOf l)
  refine xrun (ok _) 40 _ _ _ o hrun (fun k hk' => ?_) hR₄ fun s₅ hR₅ fl hfl => ?_
  · have := hob k hk'; rw [sizeLine_eq]; omega
  cases fl <;> first | exact hfl.elim | skip
  obtain ⟨h1, m, own, F, _⟩ := hR₅
  have e : (match modeOf l with | .gap | .word => l | _ => l ++ lackOf (modeOf l)) = closeT l := by
    unfold closeT
    cases modeOf l <;> simp [lackOf]
  rw [e] at hfl
  exact post _ _ hfl h1 F.keep
end
end Mine
end -- H7
section -- H8
set_option maxRecDepth 100000
set_option maxHeartbeats 4000000
namespace Mine
/-- the same objects, up to their slots -/
inductive UpTo : Objs → Objs → Prop
  | nil : UpTo [] []
  | cons {a o sl l l'} : UpTo l l' → UpTo ((a, o) :: l) ((a, { o with slots := sl }) :: l')
theorem UpTo.refl : ∀ l : Objs, UpTo l l
  | [] => .nil
  | (a, o) :: l => by have := UpTo.cons (a := a) (o := o) (sl := o.slots) (UpTo.refl l); exact this
theorem UpTo.names {a b : Objs} (h : UpTo a b) : b.map (·.1) = a.map (·.1) := by
  induction h with
  | nil => rfl
  | cons _ ih => simp [ih]
theorem UpTo.find {a b : Objs} (h : UpTo a b) : ∀ p ∈ a, ∃ sl, (p.1, { p.2 with slots := sl }) ∈ b := by
  induction h with
  | nil => intro p hp; cases hp
  | @cons x o sl l l' _ ih =>
    intro p hp
    rcases List.mem_cons.mp hp with rfl | hp
    · exact ⟨sl, .head _⟩
    · obtain ⟨sl', q⟩ := ih p hp
      exact ⟨sl', .tail _ q⟩
theorem UpTo.step {a b : Objs} (h : UpTo a b) {hp hp' : Heap} (hb : ∀ p ∈ b, hp.get? p.1 = some p.2) (nf : ∀ p ∈ a, ∀ vs, p.2.data ≠ .fields vs) (k : ∀ x o, hp.get? x = some o → (∀ vs, o.data ≠ .fields vs) → ∃ sl, hp'.get? x = some { o with slots := sl }) : ∃ b', UpTo a b' ∧ ∀ p ∈ b', hp'.get? p.1 = some p.2 := by
  induction h with
  | nil => exact ⟨[], .nil, fun _ h => nomatch h⟩
  | @cons x o sl l l' _ ih =>
    obtain ⟨b', h1, h2⟩ := ih (fun p hp => hb p (.tail _ hp)) (fun p hp => nf p (.tail _ hp))
    obtain ⟨sl', e⟩ := k x { o with slots := sl } (hb _ (.head _)) (nf _ (.head _))
    refine ⟨(x, { o with slots := sl' }) :: b', .cons h1, fun p hp => ?_⟩
    rcases List.mem_cons.mp hp with rfl | hp
    · exact e
    · exact h2 p hp
/-- the ledger, and the stack's frames up to their slots -/
noncomputable def LedF (frs : Objs) (e : Objs) (_ : Str → Option Value) (own : Objs) : Prop := ∃ f', own = e ++ f' ∧ UpTo frs f' ∧ ∀ p ∈ e, p.1 ∉ frs.map (·.1)
/-- the stack's frames stand so -/
structure FrsAt (frs : Objs) (outer : List Env) (b₀ h : Heap) : Prop where
  names : frs.map (·.1) = frA outer
  at_ : ∀ p ∈ frs, h.get? p.1 = some p.2 ∧ b₀.get? p.1 = none ∧ ∀ vs, p.2.data ≠ .fields vs
theorem frs_of {b₀ h : Heap} : ∀ {outer : List Env}, h.FunFrames b₀ outer → ∃ frs, FrsAt frs outer b₀ h
  | [], _ => ⟨[], rfl, fun _ h => nomatch h⟩
  | env :: rest, ⟨hk, ⟨L, o, hf, hn, ho, hd⟩, hr⟩ => by
    obtain ⟨frs, h1, h2⟩ := frs_of hr
    refine ⟨(L, o) :: frs, by simp [frA, hf, h1], fun p hp => ?_⟩
    rcases List.mem_cons.mp hp with rfl | hp
    · exact ⟨ho, hn, hd⟩
    · exact h2 p hp
section
variable {w : World} {mg mb : Str → Option Value} {b₀ : Heap} {A : Around} {s s₀ s' : Shared} {env : Env} {L : Addr} {frs e : Objs} {outer : List Env} {loc : Loc}
/-- behind a call that raises and catches within -/
theorem RF.kept (fa : FrsAt frs outer b₀ s₀.heap) (hf : env.frame = some L) (h : RF s₀ (hideAll s₀.heap (frs.map (·.1))) env L (LedF frs) loc e s) (k : KeptF (env :: outer) [] s.heap s'.heap) (hs : SameRest s s') : RF s₀ (hideAll s₀.heap (frs.map (·.1))) env L (LedF frs) loc e s' := by
  obtain ⟨h1, m, own, F, N, l, f', rfl, up, off⟩ := h
  have ofA : ∀ b, b ≠ L → b ∉ frs.map (·.1) → b ∉ frA (env :: outer) := fun b h1 h2 q => by
    rw [frA, List.filterMap_cons, hf] at q
    rcases List.mem_cons.mp q with q | q
    · exact h1 q
    · rw [fa.names] at h2; exact h2 q
  obtain ⟨f'', up', at'⟩ := up.step (hp := s.heap) (hp' := s'.heap) (fun p hp => (N p (List.mem_append_right _ hp)).1) (fun p hp => (fa.at_ p hp).2.2) (fun x o e nf => k.upto x o e (fun q => nomatch q) nf)
  have hL : ∀ b o, (hideAll s₀.heap (frs.map (·.1))).get? b = some o → b ≠ L := fun b o e => Nat.ne_of_lt (Nat.lt_of_lt_of_le (Heap.lt_size e) F.above)
  refine ⟨h1.trans hs, m, e ++ f'', ⟨?_, fun b o e => ?_, F.above⟩, fun p hp => ?_, l, f'', rfl, up', off⟩
  · obtain ⟨oL, es, ep, eL, dL, r⟩ := F.ns
    obtain ⟨sl, e2⟩ := k.upto L oL eL (fun q => nomatch q) (fun vs => by rw [dL]; exact fun q => nomatch q)
    exact ⟨_, es, ep, e2, dL, r⟩
  · refine k.old b o (F.keep b o e) (fun q => nomatch q) (ofA b (hL b o e) fun q => ?_)
    rw [hideAll_none _ q] at e; cases e
  · rcases List.mem_append.mp hp with hp | hp
    · have P := N p (List.mem_append_left _ hp)
      exact ⟨k.old _ _ P.1 (fun q => nomatch q) (ofA _ P.2.1 (off p hp)), P.2⟩
    · have hn : p.1 ∈ f'.map (·.1) := by rw [up.names, ← up'.names]; exact List.mem_map_of_mem hp
      obtain ⟨q, hq, e⟩ := List.mem_map.mp hn
      have P := N q (List.mem_append_right _ hq)
      rw [e] at P
      exact ⟨at' p hp, P.2⟩
/-- the stack within -/
theorem RF.stk (fa : FrsAt frs outer b₀ s₀.heap) (hf : env.frame = some L) (hke : env.scope.kind = .function) (sk : Stk A outer b₀ s₀.heap) (hL0 : b₀.get? L = none) (h : RF s₀ (hideAll s₀.heap (frs.map (·.1))) env L (LedF frs) loc e s) : Stk (A.deeper env) (env :: outer) b₀ s.heap := by
  obtain ⟨h1, m, own, F, N, l, f', rfl, up, off⟩ := h
  refine ⟨sk.hd, Around.frames_deeper sk.fr, fun b o e => F.keep b o (hideAll_get _ (sk.st b o e) fun q => ?_), .cons (by rw [hke]; decide) hf F.ns hL0 (frames_on (fun b o e hb => ?_) sk.ff)⟩
  · obtain ⟨p, hp, rfl⟩ := List.mem_map.mp q
    rw [(fa.at_ p hp).2.1] at e; cases e
  · have hb : b ∈ frA outer := hb
    rw [← fa.names] at hb
    obtain ⟨p, hp, rfl⟩ := List.mem_map.mp hb
    obtain ⟨sl, q⟩ := up.find p hp
    have e2 := (fa.at_ p hp).1
    rw [e] at e2
    cases e2
    exact ⟨_, (N _ (List.mem_append_right _ q)).1, rfl⟩
/-- what stands behind -/
theorem RF.outK (fa : FrsAt frs outer b₀ s₀.heap) (h : RF s₀ (hideAll s₀.heap (frs.map (·.1))) env L (LedF frs) loc e s) : SameRest s₀ s ∧ KeptF outer [] s₀.heap s.heap := by
  obtain ⟨h1, m, own, F, N, l, f', rfl, up, off⟩ := h
  refine ⟨h1, fun b o e _ q => F.keep b o (hideAll_get _ e fun z => q (by rw [← fa.names]; exact z)), fun b o e _ nf => ?_⟩
  by_cases hb : b ∈ frs.map (·.1)
  · obtain ⟨p, hp, rfl⟩ := List.mem_map.mp hb
    obtain ⟨sl, q⟩ := up.find p hp
    have e2 := (fa.at_ p hp).1
    rw [e] at e2
    cases e2
    exact ⟨sl, (N _ (List.mem_append_right _ q)).1⟩
  · exact ⟨o.slots, F.keep b o (hideAll_get _ e hb)⟩
theorem RF.growF (h : RF s₀ (hideAll s₀.heap (frs.map (·.1))) env L (LedF frs) loc e s) (k : s.heap.StaysIn s'.heap) (hs : SameRest s s') (nw : Objs) (hn : ∀ p ∈ nw, s.heap.get? p.1 = none ∧ s'.heap.get? p.1 = some p.2) : RF s₀ (hideAll s₀.heap (frs.map (·.1))) env L (LedF frs) loc (nw ++ e) s' := by
  obtain ⟨h1, m, own, F, N, l, f', rfl, up, off⟩ := h
  obtain ⟨oL, hL⟩ : ∃ o, s.heap.get? L = some o := by obtain ⟨o, _, _, e, _⟩ := F.ns; exact ⟨o, e⟩
  refine ⟨h1.trans hs, m, nw ++ e ++ f', frAfter (fp := []) F (fun b o e _ => k b o e) (fun _ q => nomatch q), fun p hp => ?_, l, f', rfl, up, fun p hp => ?_⟩
  · rw [List.append_assoc] at hp
    rcases List.mem_append.mp hp with hp | hp
    · obtain ⟨a, b⟩ := hn p hp
      refine ⟨b, (fun q => by rw [q, hL] at a; cases a), ?_⟩
      cases z : (hideAll s₀.heap (frs.map (·.1))).get? p.1 with
      | none => rfl
      | some o => rw [F.keep _ _ z] at a; cases a
    · exact ⟨k _ _ (N _ hp).1, (N _ hp).2⟩
  · rcases List.mem_append.mp hp with hp | hp
    · intro q
      rw [← up.names] at q
      obtain ⟨x, hx, ex⟩ := List.mem_map.mp q
      have := (N x (List.mem_append_right _ hx)).1
      rw [ex, (hn p hp).1] at this; cases this
    · exact off p hp
end
end Mine
end -- H8
section -- H9
set_option maxRecDepth 100000
set_option maxHeartbeats 4000000
namespace Mine
section
variable {w : World} {mg mb : Str → Option Value} {g : Heap} {A : Around} {E : Value → Shared → Prop} {s s₀ : Shared} {L a : Addr} {m : Str → Option Value} {qual : Str} {sc : Scope} {cd : Value} {f : Str} {v : Value} {cells : List (Str × Addr)} {asg : List Str}
theorem gF_nameX {pos : Pos} {Q : Value → Shared → Prop} (Bs : Base w mg mb g) (F : Fr g L s.heap m) (hk : sc.kind = .function) (h : gF w sc f = some v) (q : Q v s) : wpAny (model PG w) A (eval (.Name f pos) (envX qual sc L a cd cells)) Q E s := by
  unfold gF at h
  split at h
  · rename_i hc
    simp only [Bool.and_eq_true, beq_iff_eq, Bool.not_eq_true'] at hc
    obtain ⟨⟨h1, h2⟩, h3⟩ := hc
    split at h
    · rename_i b hb
      split at h
      · cases h
        exact Calls.Name_function_global hk h1 (Calls.loadGlobal_global (env := envX qual sc L a cd cells) (Bs.g.keeps F.keep) (mg_of Bs.X Bs.g hb) q) h2
      · cases h
    · rename_i hb
      have hn : f ≠ "__name__" := fun e => by rw [e] at h3; simp at h3
      split at h
      · rename_i t ht
        cases h
        exact Calls.Name_function_global hk h1 (Calls.loadGlobal_builtin (env := envX qual sc L a cd cells) (Bs.g.keeps F.keep) (mg_none_of Bs.X Bs.g hb) (Bs.b.keeps F.keep) ((Bs.bb f hn).trans ht) q) h2
      · rename_i t ht
        cases h
        exact Calls.Name_function_global hk h1 (Calls.loadGlobal_builtin (env := envX qual sc L a cd cells) (Bs.g.keeps F.keep) (mg_none_of Bs.X Bs.g hb) (Bs.b.keeps F.keep) ((Bs.bb f hn).trans ht) q) h2
      · cases h
    · cases h
  · cases h
theorem faceX {ε : Type} {Led : ε → (Str → Option Value) → Objs → Prop} {hookE : Expr → Loc → ε → Option (MV × ε)} (Bs : Base w mg mb g) (hk : sc.kind = .function) (hasg : asgOk sc asg = true) (hled : ∀ x m m' own, Led x m own → Led x m' own)
    (hE : ∀ {loc x s e v x'} {Q : Value → Shared → Prop}, RF s₀ g (envX qual sc L a cd cells) L Led loc x s → hookE e loc x = some (v, x') → (∀ v' s', Sim v' v → RF s₀ g (envX qual sc L a cd cells) L Led loc x' s' → Q v' s') → wpAny (model PG w) A (eval e (envX qual sc L a cd cells)) Q E s) :
    FaceOk (plainFace w sc asg hookE noS noC) PG w A (envX qual sc L a cd cells) E (RF s₀ g (envX qual sc L a cd cells) L Led) where
  name := fun hR hl hQ => by
    obtain ⟨h1, m, own, F, N, l, d⟩ := hR
    obtain ⟨v, hv, hs, hkd, hd⟩ := l _ _ hl
    exact nameX_L F hv (hQ _ hs) hk hkd hd
  load := fun hR hl hQ => by
    obtain ⟨h1, m, own, F, N, l, d⟩ := hR
    obtain ⟨v, hv, hs, hkd, hd⟩ := l _ _ hl
    exact wpAny_loadName_local hk hkd F.ns hv (hQ _ hs)
  store := fun hR ha hs hQ => by
    obtain ⟨h1, m, own, F, N, l, d⟩ := hR
    obtain ⟨hkd, hd, _⟩ := asgOk_mem hasg ha
    exact storeX_L F N (fun h' F' N' => hQ _ ⟨h1.put _ _, _, own, F', N', l.store hs hkd hd, hled _ _ _ _ d⟩) hk hkd
  toks := fun hR => hR.toks _
  push := fun hR hf => hR.push hf
  sname := fun _ h => by cases h
  get := fun _ h => by cases h
  set := fun _ h => by cases h
  hookE := hE
  hookS := fun _ h => by cases h
  hookT := fun _ h => by cases h
  gname := fun hR hf q => by
    obtain ⟨_, m, own, F, _⟩ := hR
    exact gF_nameX Bs F hk hf q
  keeper := fun hR hf => by
    obtain ⟨_, m, own, F, _⟩ := hR
    exact gF_keeper (Bs.keeps F.keep).X hf
  call := fun _ _ h => by cases h
end
section
variable {ε : Type} {I : Face ε} {w : World} {A : Around} {env : Env} {E : Value → Shared → Prop} {RR : Loc → ε → Shared → Prop}
/-- a global is called with one argument; how it is reckoned is yours to say -/
theorem wp_call1 (ok : FaceOk I PG w A env E RR) {f : Str} {fv : Value} {arg : Expr} {p pos : Pos} {loc : Loc} {x : ε} {s : Shared} {Q : Value → Shared → Prop} (hf : I.gfun f = some fv) (hst : isStar arg = false) (hR : RR loc x s)
    (h : wpAny (model PG w) A (eval arg env) (fun v s₁ => (∃ loc' x', RR loc' x' s₁) ∧ wpAny (model PG w) A (PySem.call fv [v]) Q E s₁) E s) : wpAny (model PG w) A (eval (.Call (.Name f p) [arg] [] pos) env) Q E s := by
  refine wpAny_Call_ofName (ok.gname hR hf ?_)
  have hplain : ((backTo pos (starEach [arg] env)).any (·.1) || ([] : List (Option Str × Sem Value)).any (·.1.isNone)) = false := by
    rw [star_plain hst]; rfl
  refine callWith_of (P := fun h => ∃ k, (k = Keeper.frame ∨ k = Keeper.machine ∨ k = Keeper.boundFrame) ∧ Looks (model PG w) h (keeperOf fv) k) hplain (fun h' y => y) ?_
  have fin : wpAny (model PG w) A (spliced (backTo pos (starEach [arg] env))) (fun vs' s1 => (∃ k, (k = Keeper.frame ∨ k = Keeper.machine ∨ k = Keeper.boundFrame) ∧ Looks (model PG w) s1.heap (keeperOf fv) k) ∧ wpAny (model PG w) A (PySem.call fv ([] ++ vs')) Q E s1) E s :=
    wpAny_items_cons (wpAny_mono h (fun v s₁ h₁ => by
      obtain ⟨⟨loc', x', hR'⟩, hc⟩ := h₁
      exact wpAny_items_nil ⟨ok.keeper hR' hf, hc⟩) fun _ _ e => e) (star_plain hst)
  rw [star_plain hst] at fin ⊢
  exact Calls.evalArgs_plain fin
end
section
variable {w : World} {mg mb : Str → Option Value} {b₀ : Heap} {A : Around} {s : Shared} {fd : FuncData} {f : Addr} {R : Result → Shared → Prop} {outer : List Env}
theorem base_hide {frs : Objs} (Bs : Base w mg mb b₀) (sk : Stk A outer b₀ s.heap) (fa : FrsAt frs outer b₀ s.heap) : Base w mg mb (hideAll s.heap (frs.map (·.1))) :=
  Bs.keeps fun b o e => hideAll_get _ (sk.st b o e) fun q => by
    obtain ⟨p, hp, rfl⟩ := List.mem_map.mp q
    rw [(fa.at_ p hp).2.1] at e; cases e
/-- a def of the text is called; what it makes, and the stack, are kept in the ledger -/
theorem enterK (args : Args) (names : List Str) {vs : List Value} {mvs : List MV} (asg : List Str) (Bs : Base w mg mb b₀) (sk : Stk A outer b₀ s.heap) (ff : FnFacts w f fd) (hroom : A.depth < recursionLimit) (hs : Sims vs mvs)
    (hb : runK (KK w) 100 (bindArgs fd args) = some (names.zip vs)) (hn : namesOk fd.scope names = true) (hasg : asgOk fd.scope asg = true)
    (h : ∀ L s₁ frs, FrsAt frs outer b₀ s.heap → (∀ E, FaceOk (plainFace w fd.scope asg noE noS noC) PG w (A.deeper (envAt fd L f)) (envAt fd L f) E (RF s (hideAll s.heap (frs.map (·.1))) (envAt fd L f) L (LedF frs))) →
      RF s (hideAll s.heap (frs.map (·.1))) (envAt fd L f) L (LedF frs) (names.zip mvs) [] s₁ → s.heap.get? L = none → b₀.get? L = none → fd.scope.kind = .function → Base w mg mb (hideAll s.heap (frs.map (·.1))) →
      wpAny (model PG w) (A.deeper (envAt fd L f)) (execs (bodyOf fd) (envAt fd L f)) (fun fl s' => R (.ok (.ret (flowV fl))) s')
        (fun e s' => wpAny (model PG w) (A.deeper (envAt fd L f)) (leaving (envAt fd L f) e) (fun _ s'' => R (.error e) s'') (fun e' s'' => R (.error e') s'') s') s₁) :
    codeAny (model PG w) A (.call (.ref f) args) R s := by
  obtain ⟨frs, fa⟩ := frs_of sk.ff
  refine enterF frs Bs sk.st ff hroom (binds_run (Bs.keeps sk.st) 100 hb) (namesOk_locs hn _) (fun p hp => ⟨(fa.at_ p hp).1, (fa.at_ p hp).2.1⟩) fun L h₁ F N stg hL hL0 hk => ?_
  have Bg := Bs.keeps stg
  have l := locRel_init (env := envAt fd L f) names vs mvs (namesOk_nodup hn) hs (namesOk_mem hn)
  refine wpAny_mono (h L { s with heap := h₁, toks := s.toks + (names.zip vs).length } frs fa (fun E => faceX (cells := []) Bg hk hasg (fun _ _ _ _ h => h) (fun _ h => by cases h)) ⟨⟨rfl, rfl, rfl⟩, _, frs, F, N, l, frs, rfl, UpTo.refl _, fun _ h => nomatch h⟩ hL hL0 hk Bg) (fun fl s' q => ?_) fun _ _ q => q
  cases fl <;> exact q
end
end Mine
end -- H9
section -- H10
set_option maxRecDepth 100000
set_option maxHeartbeats 4000000
namespace Mine
noncomputable abbrev txN : Str := sN "text"
noncomputable abbrev lamParams : Arguments := { posonlyargs := [], args := [{ arg := sN "k", annotation := none, pos := PS 818 19 818 20 }], vararg := none, kwonlyargs := [], kw_defaults := [], kwarg := none, defaults := [] }
noncomputable abbrev lamCut : Expr := .Subscript (.Name txN (PS 818 44 818 48)) (.Slice none (some (.Name (sN "k") (PS 818 50 818 51))) none (PS 818 49 818 51)) (PS 818 44 818 52)
noncomputable abbrev lamCl : Expr := .Call (.Name (sN "_law_closed") (PS 818 32 818 43)) [lamCut] [] (PS 818 32 818 53)
noncomputable abbrev lamSp : Expr := .Call (.Name (sN "split") (PS 818 26 818 31)) [lamCl] [] (PS 818 26 818 54)
noncomputable abbrev lamBody : Expr := .Call (.Name (sN "len") (PS 818 22 818 25)) [lamSp] [] (PS 818 22 818 55)
noncomputable abbrev lamScope : Scope := { kind := .function, names := [(sN "k", .local), (txN, .free), (sN "len", .globalImplicit), (sN "split", .globalImplicit), (sN "_law_closed", .globalImplicit)], isGenerator := false, isCoroutine := false, more := [] }
noncomputable abbrev lamQual : Str := sN "_law_found.<locals>.<lambda>"
noncomputable abbrev lamObj (cell : Addr) (pm : Value) (c' : Addr) (ctv : Value) : Obj := kla_obj (sN "<lambda>") lamQual lamParams lamBody lamScope [(txN, cell)] pm c' ctv
/-- the lambda and its cell stand -/
structure LamAt (lam cell c' : Addr) (l : List Nat) (outer : List Env) (b₀ h : Heap) : Prop where
  fn : ∃ pm ctv, h.get? lam = some (lamObj cell pm c' ctv)
  code : ∃ oc vs t, h.get? c' = some oc ∧ oc.data = .fields vs ∧ vs[1]? = some (.str lamQual t)
  cel : ∃ oc t, h.get? cell = some oc ∧ oc.data = .cell (some (.str ⟨l.toArray⟩ t))
  off : cell ∉ frA outer ∧ lam ∉ frA outer ∧ c' ∉ frA outer
noncomputable def lamE (l : List Nat) : Expr → Loc → Objs → Option (MV × Objs) := fun e _ x => (asName e).bind fun y => cond (y == txN) (some (.str l, x)) none
section
variable {w : World} {mg mb : Str → Option Value} {b₀ : Heap} {A : Around} {s : Shared} {R : Result → Shared → Prop} {outer : List Env} {lam cell c' : Addr} {l : List Nat}
theorem lam_c {ws : List (List Nat)} {k : Nat} {tv : Tok} (Bs : Base w mg mb b₀) (sk : Stk A outer b₀ s.heap) (hroom : A.depth < 810) (la : LamAt lam cell c' l outer b₀ s.heap) (hlen : l.length ≤ 5000) (hal : ∀ c ∈ l, c ∈ alpha)
    (hcl : ∀ c ∈ closeT (l.take k), c ∈ alpha) (hcn : (closeT (l.take k)).length ≤ 10000) (hw : TokS (closeT (l.take k)) .sp ws) (hwl : ws.length ≤ 1000000)
    (post : ∀ v s', Sim v (.int ws.length) → SameRest s s' → KeptF outer [] s.heap s'.heap → R (.ok (.ret v)) s') : codeAny (model PG w) A (.call (.ref lam) ⟨[.int k tv], []⟩) R s := by
  have hrl : recursionLimit = 1000 := rfl
  obtain ⟨frs, fa⟩ := frs_of sk.ff
  obtain ⟨pm, ctv, hfn⟩ := la.fn
  obtain ⟨oc, vs, tq, hoc, hdc, hqc⟩ := la.code
  obtain ⟨ox, tt, hox, hdx⟩ := la.cel
  have Bg := base_hide Bs sk fa
  refine kla_callFunE (by omega) hfn rfl rfl rfl rfl ⟨c', oc, vs, tq, rfl, hoc, hdc, hqc⟩ ?_
  rw [show bindArgs (kla_fn (sN "<lambda>") lamQual lamParams lamBody lamScope [(txN, cell)] pm (.ref c') ctv) ⟨[.int k tv], []⟩ = pure [(sN "k", .int k tv)] from by kernel_rfl]
  refine wpAny_pure (wpAny_newFunctionEnv (show ∀ x ∈ lamScope.names, x.2 ≠ .cell from by decide) (fun x hx => by rw [List.mem_singleton.mp hx]; kernel_rfl) (fun h₁ hns hsb => ⟨((Bs.keeps sk.st).nl).fresh _ hsb, ?_⟩) rfl)
  have hk₁ : ∀ b o, s.heap.get? b = some o → h₁.get? b = some o := fun b o e => hsb.extBut b o (Nat.ne_of_lt (Heap.lt_size e)) (Heap.get?_push_of_some _ e)
  generalize hLd : s.heap.objs.size = L at *
  have nL : s.heap.get? L = none := Heap.get?_none_of_le (Nat.le_of_eq hLd)
  have hL0 : b₀.get? L = none := by
    cases q : b₀.get? L with
    | none => rfl
    | some o => rw [sk.st _ _ q] at nL; cases nL
  show codeAny _ _ (.expr lamBody (envX lamQual lamScope L lam (.ref c') [(txN, cell)])) _ _
  refine kla_codeExpr ?_
  have F : Fr (hideAll s.heap (frs.map (·.1))) L h₁ (fun y => [(sN "k", Value.int k tv)].reverse.lookup y) := ⟨hns, fun b o e => hk₁ b o (of_hideAll _ e), Nat.le_of_eq ((hideAll_size _ _).trans hLd)⟩
  have N : News (hideAll s.heap (frs.map (·.1))) L h₁ frs := fun p hp => ⟨hk₁ _ _ (fa.at_ p hp).1, (fun q => by rw [← q, (fa.at_ p hp).1] at nL; cases nL), hideAll_none _ (List.mem_map_of_mem hp)⟩
  have hR : RF s (hideAll s.heap (frs.map (·.1))) (envX lamQual lamScope L lam (.ref c') [(txN, cell)]) L (LedF frs) [(sN "k", .int k)] [] { s with heap := h₁, toks := s.toks + [(sN "k", Value.int k tv)].length } :=
    ⟨⟨rfl, rfl, rfl⟩, _, frs, F, N, locRel_init [sN "k"] [.int k tv] [.int k] (by decide) (.cons ⟨_, rfl⟩ .nil) (fun y hy => by rw [List.mem_singleton.mp hy]; exact ⟨rfl, by decide⟩), frs, rfl, UpTo.refl _, fun _ h => nomatch h⟩
  have hcg : (hideAll s.heap (frs.map (·.1))).get? cell = some ox := hideAll_get _ hox (by rw [fa.names]; exact la.off.1)
  have ok : ∀ E, FaceOk (plainFace w lamScope [] (lamE l) noS noC) PG w (A.deeper (envX lamQual lamScope L lam (.ref c') [(txN, cell)])) (envX lamQual lamScope L lam (.ref c') [(txN, cell)]) E (RF s (hideAll s.heap (frs.map (·.1))) (envX lamQual lamScope L lam (.ref c') [(txN, cell)]) L (LedF frs)) :=
    fun E => faceX Bg rfl rfl (fun _ _ _ _ h => h) fun {loc x s₁ e v x' Q} hR h hQ => by
      · refine bnd h fun y hy h => cnd h fun q h => ?_
        · cases (Option.some.inj h)
          obtain ⟨yp, rfl⟩ := asName_eq hy
          obtain rfl := eq_of_beq q
          have hR' := hR
          obtain ⟨h1, m, own, F, N, _⟩ := hR
          exact wpAny_Name (wpAny_loadName_free rfl rfl rfl ⟨ox, F.keep _ _ hcg, hdx⟩ (hQ _ _ ⟨tt, rfl⟩ hR') (by decide)) (by decide)
  refine wp_call1 (ok _) (fv := .builtin "len") (by kernel_rfl) rfl hR ?_
  refine wp_call1 (ok _) (fv := .ref 752) (by kernel_rfl) rfl hR ?_
  refine wp_callG (ok _) 10 (fv := .ref 771) (mvs := [.str (pcut l none (some k))]) (x' := []) (o := [l.length]) (by kernel_rfl) (by kernel_rfl) (by simp; rw [sizeLine_eq]; omega) hR fun vs s₂ hv hR₂ => ?_
  cases hv with | cons a b =>
  cases b
  have ecut : pcut l none (some k) = l.take k := by simp [pcut]
  rw [ecut] at a
  have sk₂ := hR₂.stk fa rfl rfl sk hL0
  refine wpAny_call (cl_c Bs sk₂.st (by show A.depth + 1 < 890; omega) sk₂.hd a (by rw [List.length_take]; omega) (fun c hc => hal c (List.mem_of_mem_take hc)) fun v s₃ hv hs₃ hk₃ => ?_)
  have hR₃ := hR₂.growF hk₃ hs₃ [] (fun _ h => nomatch h)
  have hR₃ : RF s (hideAll s.heap (frs.map (·.1))) (envX lamQual lamScope L lam (.ref c') [(txN, cell)]) L (LedF frs) [(sN "k", .int k)] [] s₃ := hR₃
  have sk₃ := hR₃.stk fa rfl rfl sk hL0
  refine ⟨⟨_, _, hR₃⟩, wpAny_call (split_ok Bs sk₃ (by show A.depth + 1 < 820; omega) hv (by omega) hcl hw fun S s₄ us cS hs₄ hk₄ hS0 hus hS => ?_)⟩
  have hR₄ := hR₃.kept fa rfl hk₄ hs₄
  have hul : us.length = ws.length := by rw [hus.len, List.length_map]
  refine ⟨⟨_, _, hR₄⟩, len_list (isList_lst hS) (by simp; omega) ?_⟩
  obtain ⟨o1, o2⟩ := (hR₄.toks (s₄.toks + 1 + 1)).outK fa
  exact post _ _ ⟨s₄.toks + 1, by rw [List.size_toArray, hul]⟩ o1 o2
end
end Mine
end -- H10
section -- H11
set_option maxRecDepth 100000
set_option maxHeartbeats 4000000
namespace Mine
noncomputable def fBL : FuncData := fdAt 57
theorem ff_bl (w : World) : FnFacts w 57 fBL := ⟨by kernel_rfl, by kernel_rfl⟩
noncomputable def fBR : FuncData := fdAt 48
theorem ff_br (w : World) : FnFacts w 48 fBR := ⟨by kernel_rfl, by kernel_rfl⟩
noncomputable abbrev biNames : List Str := [sN "a", sN "x", sN "lo", sN "hi", sN "key"]
theorem bl_binds (w : World) (P lam : Addr) (x lo : Int) (t u : Tok) : runK (KK w) 100 (bindArgs fBL ⟨[.ref P, .int x t], [(sN "lo", .int lo u), (sN "key", .ref lam)]⟩) = some (biNames.zip [.ref P, .int x t, .int lo u, .none, .ref lam]) := by kernel_rfl
theorem br_binds (w : World) (P lam : Addr) (x lo : Int) (t u : Tok) : runK (KK w) 100 (bindArgs fBR ⟨[.ref P, .int x t], [(sN "lo", .int lo u), (sN "key", .ref lam)]⟩) = some (biNames.zip [.ref P, .int x t, .int lo u, .none, .ref lam]) := by kernel_rfl
noncomputable abbrev biHi (k : Nat) : Stmt := .Assign [.Name (sN "hi") (PS k 8 k 10)] (.Call (.Name (sN "len") (PS k 13 k 16)) [.Name (sN "a") (PS k 17 k 18)] [] (PS k 13 k 19)) (PS k 8 k 19)
theorem bl1 : ifB (stAt (bodyOf fBL) 1) = [biHi 30] := by kernel_rfl
theorem br1 : ifB (stAt (bodyOf fBR) 1) = [biHi 10] := by kernel_rfl
noncomputable abbrev biMid (k : Nat) : Stmt := .Assign [.Name (sN "mid") (PS k 12 k 15)] (.BinOp (.BinOp (.Name (sN "lo") (PS k 19 k 21)) .Add (.Name (sN "hi") (PS k 24 k 26)) (PS k 19 k 26)) .FloorDiv (.Constant (.int 2) 0 (PS k 31 k 32)) (PS k 18 k 32)) (PS k 12 k 32)
noncomputable abbrev biKey (k c : Nat) : Expr := .Call (.Name (sN "key") (PS k c k (c + 3))) [.Subscript (.Name (sN "a") (PS k (c + 4) k (c + 5))) (.Name (sN "mid") (PS k (c + 6) k (c + 9))) (PS k (c + 4) k (c + 10))] [] (PS k c k (c + 11))
noncomputable abbrev biLo (k : Nat) : Stmt := .Assign [.Name (sN "lo") (PS k 16 k 18)] (.BinOp (.Name (sN "mid") (PS k 21 k 24)) .Add (.Constant (.int 1) 0 (PS k 27 k 28)) (PS k 21 k 28)) (PS k 16 k 28)
noncomputable abbrev biUp (k : Nat) : Stmt := .Assign [.Name (sN "hi") (PS k 16 k 18)] (.Name (sN "mid") (PS k 21 k 24)) (PS k 16 k 24)
noncomputable abbrev blIf : Stmt := .If (.Compare (biKey 41 15) [.Lt] [.Name (sN "x") (PS 41 29 41 30)] (PS 41 15 41 30)) [biLo 42] [biUp 44] (PS 41 12 44 24)
noncomputable abbrev brIf : Stmt := .If (.Compare (.Name (sN "x") (PS 21 15 21 16)) [.Lt] [biKey 21 19] (PS 21 15 21 30)) [biUp 22] [biLo 24] (PS 21 12 24 28)
noncomputable abbrev blRest : List Stmt := ifO (stAt (bodyOf fBL) 2) ++ (bodyOf fBL).drop 3
noncomputable abbrev brRest : List Stmt := ifO (stAt (bodyOf fBR) 2) ++ (bodyOf fBR).drop 3
theorem blW : whB (stAt blRest 0) = [biMid 40, blIf] := by kernel_rfl
theorem brW : whB (stAt brRest 0) = [biMid 20, brIf] := by kernel_rfl
end Mine
end -- H11
section -- H12
set_option maxRecDepth 100000
set_option maxHeartbeats 4000000
namespace Mine
/-- what the law's key tells of each place -/
structure KeyOk (l : List Nat) (kf : Nat → Nat) : Prop where
  len : l.length ≤ 5000
  al : ∀ c ∈ l, c ∈ alpha
  at_ : ∀ k, k ≤ l.length → ∃ ws, TokS (closeT (l.take k)) .sp ws ∧ ws.length = kf k ∧ ws.length ≤ 1000000 ∧ (∀ c ∈ closeT (l.take k), c ∈ alpha) ∧ (closeT (l.take k)).length ≤ 10000
/-- the list of the places stands -/
structure PlAt (P : Addr) (n : Nat) (outer : List Env) (h : Heap) : Prop where
  ls : ∃ vs c, h.get? P = some (lstObj vs c) ∧ Sims vs ((List.range (n + 1)).map fun (i : Nat) => MV.int (i : Int))
  off : P ∉ frA outer
section
variable {w : World} {mg mb : Str → Option Value} {b₀ : Heap} {A : Around} {s s₀ : Shared} {fd : FuncData} {f L : Addr} {R : Result → Shared → Prop} {outer : List Env} {lam cell c' P : Addr} {l : List Nat} {kf : Nat → Nat} {frs e : Objs} {loc : Loc}
theorem LamAt.into {env : Env} (fa : FrsAt frs outer b₀ s₀.heap) (hf : env.frame = some L) (hL : s₀.heap.get? L = none) (la : LamAt lam cell c' l outer b₀ s₀.heap) (hR : RF s₀ (hideAll s₀.heap (frs.map (·.1))) env L (LedF frs) loc e s) : LamAt lam cell c' l (env :: outer) b₀ s.heap := by
  obtain ⟨h1, m, own, F, N, lr, D⟩ := hR
  have kp : ∀ b o, s₀.heap.get? b = some o → b ∉ frA outer → s.heap.get? b = some o := fun b o e q => F.keep b o (hideAll_get _ e (by rw [fa.names]; exact q))
  have off : ∀ b o, s₀.heap.get? b = some o → b ∉ frA outer → b ∉ frA (env :: outer) := fun b o e q z => by
    rw [frA, List.filterMap_cons, hf] at z
    rcases List.mem_cons.mp z with z | z
    · rw [z, hL] at e; cases e
    · exact q z
  obtain ⟨⟨pm, ctv, h1⟩, ⟨oc, vs, t, h2, h3, h4⟩, ⟨ox, tx, h5, h6⟩, o1, o2, o3⟩ := la
  exact ⟨⟨pm, ctv, kp _ _ h1 o2⟩, ⟨oc, vs, t, kp _ _ h2 o3, h3, h4⟩, ⟨ox, tx, kp _ _ h5 o1, h6⟩, off _ _ h5 o1, off _ _ h1 o2, off _ _ h2 o3⟩
theorem key_ev {E : Value → Shared → Prop} {I : Face Objs} {kk cc m : Nat} {Q : Value → Shared → Prop} (hke : fd.scope.kind = .function) (Bs : Base w mg mb b₀) (sk : Stk A outer b₀ s₀.heap) (fa : FrsAt frs outer b₀ s₀.heap) (hL : s₀.heap.get? L = none) (hL0 : b₀.get? L = none) (hroom : A.depth < 800)
    (ok : FaceOk I PG w (A.deeper (envAt fd L f)) (envAt fd L f) E (RF s₀ (hideAll s₀.heap (frs.map (·.1))) (envAt fd L f) L (LedF frs))) (la : LamAt lam cell c' l outer b₀ s₀.heap) (K : KeyOk l kf) (pl : PlAt P l.length outer s₀.heap) (hm : m ≤ l.length)
    (ha : loc.lookup (sN "a") = some (.val (.ref P))) (hmid : loc.lookup (sN "mid") = some (.int m)) (hkey : loc.lookup (sN "key") = some (.val (.ref lam)))
    (hR : RF s₀ (hideAll s₀.heap (frs.map (·.1))) (envAt fd L f) L (LedF frs) loc e s) (post : ∀ v s', Sim v (.int (kf m)) → RF s₀ (hideAll s₀.heap (frs.map (·.1))) (envAt fd L f) L (LedF frs) loc e s' → Q v s') :
    wpAny (model PG w) (A.deeper (envAt fd L f)) (eval (biKey kk cc) (envAt fd L f)) Q E s := by
  obtain ⟨ws, ht, hw1, hw2, hw3, hw4⟩ := K.at_ m hm
  have la' := la.into fa rfl hL hR
  have hfn : FnAt lam s.heap := by obtain ⟨pm, ctv, h⟩ := la'.fn; exact ⟨_, _, _, _, h⟩
  refine wpAny_Call_ofName (ok.name hR hkey fun v hv => ?_)
  cases hv
  refine callWith_F hfn (wpAny_items_cons (Subscript_ (ok.name hR ha fun v1 hv1 => ok.name hR hmid fun v2 hv2 => ?_)))
  cases hv1
  obtain ⟨t2, rfl⟩ := hv2
  obtain ⟨pvs, pc, hP, hps⟩ := pl.ls
  have hP' : s.heap.get? P = some (lstObj pvs pc) := by
    obtain ⟨h1, m, own, F, N, lr, D⟩ := hR
    exact F.keep _ _ (hideAll_get _ hP (by rw [fa.names]; exact pl.off))
  obtain ⟨vm, hvm, hsm⟩ := hps.get (k := m) (mv := .int m) (by rw [List.getElem?_map, List.getElem?_range (by omega)]; rfl)
  obtain ⟨tm, rfl⟩ := hsm
  refine it_list (k := (m : Int)) hP' (by omega) (by have := K.len; omega) (by simpa using hvm) (wpAny_items_nil ⟨hfn, wpAny_call ?_⟩)
  refine lam_c Bs (hR.stk fa rfl hke sk hL0) (by show A.depth + 1 < 810; omega) la' K.len K.al hw3 hw4 ht hw2 fun v s' hv hs hk => ?_
  exact post v s' (by rw [← hw1]; exact hv) (hR.kept fa rfl hk hs)
end
section
variable {w : World} {mg mb : Str → Option Value} {b₀ : Heap} {A : Around} {s : Shared} {R : Result → Shared → Prop} {outer : List Env} {lam cell c' P : Addr} {l : List Nat} {kf : Nat → Nat}
theorem bl_c {j lo : Nat} {x : Int} {t u : Tok} (Bs : Base w mg mb b₀) (sk : Stk A outer b₀ s.heap) (hroom : A.depth < 790) (la : LamAt lam cell c' l outer b₀ s.heap) (K : KeyOk l kf) (pl : PlAt P l.length outer s.heap) (hx : x = (j : Int) + 1) (hlo : lo ≤ l.length + 1)
    (mono : ∀ a b, a ≤ b → b ≤ l.length → kf b ≤ j → kf a ≤ j)
    (post : ∀ v s' r, Sim v (.int (r : Nat)) → lo ≤ r → r ≤ l.length + 1 → (∀ i, lo ≤ i → i < r → kf i ≤ j) → (∀ i, r ≤ i → i ≤ l.length → j < kf i) → SameRest s s' → KeptF outer [] s.heap s'.heap → R (.ok (.ret v)) s') :
    codeAny (model PG w) A (.call (.ref 57) ⟨[.ref P, .int x t], [(sN "lo", .int lo u), (sN "key", .ref lam)]⟩) R s := by
  have hrl : recursionLimit = 1000 := rfl
  have hKl := K.len
  refine enterK _ biNames (vs := [.ref P, .int x t, .int lo u, .none, .ref lam]) (mvs := [.val (.ref P), .int x, .int lo, .none, .val (.ref lam)]) [sN "hi", sN "lo", sN "mid"] Bs sk (ff_bl w) (by omega) (.cons rfl (.cons ⟨_, rfl⟩ (.cons ⟨_, rfl⟩ (.cons rfl (.cons rfl .nil))))) (bl_binds w P lam x lo t u) (by kernel_rfl) (by kernel_rfl) fun L s₁ frs fa ok hR hL hL0 hk Bg => ?_
  show wpAny _ _ (execs ((bodyOf fBL).drop 0) _) _ _ _
  have d0 : decide ((lo : Int) < 0) = false := decide_eq_false (by omega)
  refine xifAt (ok _) 30 (decide ((lo : Int) < 0)) [] [] 0 (by kernel_rfl) (by kernel_rfl) (by kernel_rfl) (fun _ h => nomatch h) hR fun s₂ hR₂ => ?_
  rw [d0]
  show wpAny _ _ (execs ((bodyOf fBL).drop 1) _) _ _ _
  refine xifAt (ok _) 30 true [] [] 1 (by kernel_rfl) (by kernel_rfl) (by kernel_rfl) (fun _ h => nomatch h) hR₂ fun s₃ hR₃ => ?_
  rw [if_pos rfl, bl1]
  refine wpAny_execs_cons (xasgN (ok _) rfl (by kernel_rfl) (wp_callG (ok _) 10 (fv := .builtin "len") (mvs := [.val (.ref P)]) (x' := []) (o := []) (by kernel_rfl) (by kernel_rfl) (fun _ h => nomatch h) hR₃ fun vs s₄ hv hR₄ => ?_))
  cases hv with | cons a b =>
  cases b
  cases a
  obtain ⟨pvs, pc, hP, hps⟩ := pl.ls
  have hP' : s₄.heap.get? P = some (lstObj pvs pc) := by
    obtain ⟨h1, m, own, F, N, lr, D⟩ := hR₄
    exact F.keep _ _ (hideAll_get _ hP (by rw [fa.names]; exact pl.off))
  have hpl : pvs.length = l.length + 1 := by rw [hps.len, List.length_map, List.length_range]
  refine len_list (isList_lst hP') (by rw [List.size_toArray, hpl]; omega) ?_
  refine ⟨.int (l.length + 1 : Nat), _, _, ⟨s₄.toks + 1, by rw [List.size_toArray, hpl]⟩, hR₄.toks _, fun s₅ hR₅ => ?_⟩
  show wpAny _ _ (execs ((bodyOf fBL).drop 2) _) _ _ _
  refine xifAt (ok _) 30 false [] [] 2 (by kernel_rfl) (by kernel_rfl) (by kernel_rfl) (fun _ h => nomatch h) hR₅ fun s₆ hR₆ => ?_
  show wpAny _ _ (execs (blRest.drop 0) _) _ _ _
  let LC : Nat → Nat → Loc := fun lo hi => [(sN "a", .val (.ref P)), (sN "x", .int x), (sN "lo", .int lo), (sN "hi", .int hi), (sN "key", .val (.ref lam))]
  refine xwhAt 0 (by kernel_rfl) (by kernel_rfl) PassesOwn.leaving (fun n s' => ∃ lo' hi' : Nat, n = hi' - lo' ∧ lo ≤ lo' ∧ lo' ≤ hi' ∧ hi' ≤ l.length + 1 ∧ (∀ i, lo ≤ i → i < lo' → kf i ≤ j) ∧ (∀ i, hi' ≤ i → i ≤ l.length → j < kf i) ∧
      RF s (hideAll s.heap (frs.map (·.1))) (envAt fBL L 57) L (LedF frs) (LC lo' hi') [] s') ?_ (l.length + 1 - lo) ⟨lo, l.length + 1, rfl, Nat.le_refl _, hlo, Nat.le_refl _, fun i h1 h2 => by omega, fun i h1 h2 => by omega, hR₆⟩
  rintro n s' ⟨lo', hi', rfl, h1, h2, h3, h4, h5, hR'⟩
  refine (psound (ok _) 8).2.2.1 _ _ _ (decide ((lo' : Int) < (hi' : Int))) [] [] (by kernel_rfl) (fun _ h => nomatch h) _ _ hR' fun s₇ hR₇ => ?_
  by_cases hlt : lo' < hi'
  · rw [decide_eq_true (by omega : (lo' : Int) < (hi' : Int)), if_pos rfl, blW]
    refine wpAny_execs_cons (xasgN (ok _) rfl (by kernel_rfl) (wpAny_BinOp (wpAny_BinOp ((ok _).name hR₇ (v := .int lo') (by kernel_rfl) fun v1 hv1 => (ok _).name hR₇ (v := .int hi') (by kernel_rfl) fun v2 hv2 => ?_))))
    obtain ⟨t1, rfl⟩ := hv1
    obtain ⟨t2, rfl⟩ := hv2
    refine PySem.P.add_int (wpAny_Constant_int (floordiv_int (by decide) ?_ (.inl (PyProof.noPylong_small (by decide)))))
    have emid : ((lo' : Int) + (hi' : Int)).fdiv 2 = (((lo' + hi') / 2 : Nat) : Int) := by
      rw [Int.fdiv_eq_ediv_of_nonneg _ (by decide)]; omega
    rw [emid]
    refine ⟨.int ((lo' + hi') / 2 : Nat), _, _, ⟨_, rfl⟩, hR₇.toks _, fun s₈ hR₈ => ?_⟩
    have hm : (lo' + hi') / 2 ≤ l.length := by omega
    have hR₈ : RF s (hideAll s.heap (frs.map (·.1))) (envAt fBL L 57) L (LedF frs) (LC lo' hi' ++ [(sN "mid", .int ((lo' + hi') / 2 : Nat))]) [] s₈ := hR₈
    refine wpAny_execs_cons (wpAny_If ?_)
    have fin : ∀ s₉, RF s (hideAll s.heap (frs.map (·.1))) (envAt fBL L 57) L (LedF frs) (LC lo' hi' ++ [(sN "mid", .int ((lo' + hi') / 2 : Nat))]) [] s₉ →
        wpAny (model PG w) (A.deeper (envAt fBL L 57)) (execs (if decide (kf ((lo' + hi') / 2) ≤ j) then [biLo 42] else [biUp 44]) (envAt fBL L 57)) (fun f s₃ => f = .next ∧ ∃ m, m < hi' - lo' ∧ ∃ lo' hi' : Nat, m = hi' - lo' ∧ lo ≤ lo' ∧ lo' ≤ hi' ∧ hi' ≤ l.length + 1 ∧ (∀ i, lo ≤ i → i < lo' → kf i ≤ j) ∧ (∀ i, hi' ≤ i → i ≤ l.length → j < kf i) ∧
          RF s (hideAll s.heap (frs.map (·.1))) (envAt fBL L 57) L (LedF frs) (LC lo' hi') [] s₃)
          (fun e s' => wpAny (model PG w) (A.deeper (envAt fBL L 57)) (leaving (envAt fBL L 57) e) (fun _ s'' => R (.error e) s'') (fun e' s'' => R (.error e') s'') s') s₉ := by
      intro s₉ hR₉
      by_cases hc : kf ((lo' + hi') / 2) ≤ j
      · rw [decide_eq_true hc, if_pos rfl]
        refine xrun (ok _) 10 .next (LC ((lo' + hi') / 2 + 1) hi' ++ [(sN "mid", .int ((lo' + hi') / 2 : Nat))]) [] [] (by kernel_rfl) (fun _ h => nomatch h) hR₉ fun s₁₀ hR₁₀ fl hfl => ?_
        cases fl <;> first | exact hfl.elim | skip
        refine ⟨rfl, hi' - ((lo' + hi') / 2 + 1), by omega, (lo' + hi') / 2 + 1, hi', rfl, by omega, by omega, h3, fun i q1 q2 => mono i _ (by omega) hm hc, h5, hR₁₀.forget fun y v h => lookup_take 5 (LC ((lo' + hi') / 2 + 1) hi' ++ [(sN "mid", .int ((lo' + hi') / 2 : Nat))]) h⟩
      · rw [decide_eq_false hc]
        refine xrun (ok _) 10 .next (LC lo' ((lo' + hi') / 2) ++ [(sN "mid", .int ((lo' + hi') / 2 : Nat))]) [] [] (by kernel_rfl) (fun _ h => nomatch h) hR₉ fun s₁₀ hR₁₀ fl hfl => ?_
        cases fl <;> first | exact hfl.elim | skip
        refine ⟨rfl, (lo' + hi') / 2 - lo', by omega, lo', (lo' + hi') / 2, rfl, h1, by omega, by omega, h4, fun i q1 q2 => Nat.lt_of_not_le fun q => hc (mono _ i q1 q2 q), hR₁₀.forget fun y v h => lookup_take 5 (LC lo' ((lo' + hi') / 2) ++ [(sN "mid", .int ((lo' + hi') / 2 : Nat))]) h⟩
    refine wpAny_isTrue_Compare1 (key_ev (l := l) (kf := kf) (m := (lo' + hi') / 2) hk Bs sk fa hL hL0 (by omega) (ok _) la K pl hm (by kernel_rfl) (by kernel_rfl) (by kernel_rfl) hR₈ fun v s₉ hv hR₉ => (ok _).name hR₉ (v := .int x) (by kernel_rfl) fun v3 hv3 => ?_)
    refine wp_cmp (op := .Lt) (a := .int (kf ((lo' + hi') / 2))) (b := .int x) (r := .bool (decide ((kf ((lo' + hi') / 2) : Int) < x))) rfl hv hv3 fun v4 hv4 => ?_
    cases hv4
    refine wpAny_truthy_bool ?_
    have ec : decide ((kf ((lo' + hi') / 2) : Int) < x) = decide (kf ((lo' + hi') / 2) ≤ j) := by
      rw [decide_eq_decide]; omega
    rw [ec]
    have z := fin s₉ hR₉
    by_cases hc : kf ((lo' + hi') / 2) ≤ j
    · rw [decide_eq_true hc] at z ⊢
      exact wpAny_mono z (fun f s₃ q => by obtain ⟨rfl, q⟩ := q; exact wpAny_execs_nil q) fun _ _ q => q
    · rw [decide_eq_false hc] at z ⊢
      exact wpAny_mono z (fun f s₃ q => by obtain ⟨rfl, q⟩ := q; exact wpAny_execs_nil q) fun _ _ q => q
  · rw [decide_eq_false (by omega : ¬ (lo' : Int) < (hi' : Int))]
    have hR₇ : RF s (hideAll s.heap (frs.map (·.1))) (envAt fBL L 57) L (LedF frs) (LC lo' hi') [] s₇ := hR₇
    refine xrun (ok _) 10 (.ret (.int lo')) (LC lo' hi') [] [] (by kernel_rfl) (fun _ h => nomatch h) hR₇ fun s₈ hR₈ fl hfl => ?_
    cases fl <;> first | exact hfl.elim | skip
    have e : lo' = hi' := by omega
    subst e
    obtain ⟨o1, o2⟩ := hR₈.outK fa
    exact post _ _ lo' hfl h1 h3 h4 h5 o1 o2
end
section
variable {w : World} {mg mb : Str → Option Value} {b₀ : Heap} {A : Around} {s : Shared} {R : Result → Shared → Prop} {outer : List Env} {lam cell c' P : Addr} {l : List Nat} {kf : Nat → Nat}
theorem br_c {j lo : Nat} {x : Int} {t u : Tok} (Bs : Base w mg mb b₀) (sk : Stk A outer b₀ s.heap) (hroom : A.depth < 790) (la : LamAt lam cell c' l outer b₀ s.heap) (K : KeyOk l kf) (pl : PlAt P l.length outer s.heap) (hx : x = (j : Int)) (hlo : lo ≤ l.length + 1)
    (mono : ∀ a b, a ≤ b → b ≤ l.length → kf b ≤ j → kf a ≤ j)
    (post : ∀ v s' r, Sim v (.int (r : Nat)) → lo ≤ r → r ≤ l.length + 1 → (∀ i, lo ≤ i → i < r → kf i ≤ j) → (∀ i, r ≤ i → i ≤ l.length → j < kf i) → SameRest s s' → KeptF outer [] s.heap s'.heap → R (.ok (.ret v)) s') :
    codeAny (model PG w) A (.call (.ref 48) ⟨[.ref P, .int x t], [(sN "lo", .int lo u), (sN "key", .ref lam)]⟩) R s := by
  have hrl : recursionLimit = 1000 := rfl
  have hKl := K.len
  refine enterK _ biNames (vs := [.ref P, .int x t, .int lo u, .none, .ref lam]) (mvs := [.val (.ref P), .int x, .int lo, .none, .val (.ref lam)]) [sN "hi", sN "lo", sN "mid"] Bs sk (ff_br w) (by omega) (.cons rfl (.cons ⟨_, rfl⟩ (.cons ⟨_, rfl⟩ (.cons rfl (.cons rfl .nil))))) (br_binds w P lam x lo t u) (by kernel_rfl) (by kernel_rfl) fun L s₁ frs fa ok hR hL hL0 hk Bg => ?_
  show wpAny _ _ (execs ((bodyOf fBR).drop 0) _) _ _ _
  have d0 : decide ((lo : Int) < 0) = false := decide_eq_false (by omega)
  refine xifAt (ok _) 30 (decide ((lo : Int) < 0)) [] [] 0 (by kernel_rfl) (by kernel_rfl) (by kernel_rfl) (fun _ h => nomatch h) hR fun s₂ hR₂ => ?_
  rw [d0]
  show wpAny _ _ (execs ((bodyOf fBR).drop 1) _) _ _ _
  refine xifAt (ok _) 30 true [] [] 1 (by kernel_rfl) (by kernel_rfl) (by kernel_rfl) (fun _ h => nomatch h) hR₂ fun s₃ hR₃ => ?_
  rw [if_pos rfl, br1]
  refine wpAny_execs_cons (xasgN (ok _) rfl (by kernel_rfl) (wp_callG (ok _) 10 (fv := .builtin "len") (mvs := [.val (.ref P)]) (x' := []) (o := []) (by kernel_rfl) (by kernel_rfl) (fun _ h => nomatch h) hR₃ fun vs s₄ hv hR₄ => ?_))
  cases hv with | cons a b =>
  cases b
  cases a
  obtain ⟨pvs, pc, hP, hps⟩ := pl.ls
  have hP' : s₄.heap.get? P = some (lstObj pvs pc) := by
    obtain ⟨h1, m, own, F, N, lr, D⟩ := hR₄
    exact F.keep _ _ (hideAll_get _ hP (by rw [fa.names]; exact pl.off))
  have hpl : pvs.length = l.length + 1 := by rw [hps.len, List.length_map, List.length_range]
  refine len_list (isList_lst hP') (by rw [List.size_toArray, hpl]; omega) ?_
  refine ⟨.int (l.length + 1 : Nat), _, _, ⟨s₄.toks + 1, by rw [List.size_toArray, hpl]⟩, hR₄.toks _, fun s₅ hR₅ => ?_⟩
  show wpAny _ _ (execs ((bodyOf fBR).drop 2) _) _ _ _
  refine xifAt (ok _) 30 false [] [] 2 (by kernel_rfl) (by kernel_rfl) (by kernel_rfl) (fun _ h => nomatch h) hR₅ fun s₆ hR₆ => ?_
  show wpAny _ _ (execs (brRest.drop 0) _) _ _ _
  let LC : Nat → Nat → Loc := fun lo hi => [(sN "a", .val (.ref P)), (sN "x", .int x), (sN "lo", .int lo), (sN "hi", .int hi), (sN "key", .val (.ref lam))]
  refine xwhAt 0 (by kernel_rfl) (by kernel_rfl) PassesOwn.leaving (fun n s' => ∃ lo' hi' : Nat, n = hi' - lo' ∧ lo ≤ lo' ∧ lo' ≤ hi' ∧ hi' ≤ l.length + 1 ∧ (∀ i, lo ≤ i → i < lo' → kf i ≤ j) ∧ (∀ i, hi' ≤ i → i ≤ l.length → j < kf i) ∧
      RF s (hideAll s.heap (frs.map (·.1))) (envAt fBR L 48) L (LedF frs) (LC lo' hi') [] s') ?_ (l.length + 1 - lo) ⟨lo, l.length + 1, rfl, Nat.le_refl _, hlo, Nat.le_refl _, fun i h1 h2 => by omega, fun i h1 h2 => by omega, hR₆⟩
  rintro n s' ⟨lo', hi', rfl, h1, h2, h3, h4, h5, hR'⟩
  refine (psound (ok _) 8).2.2.1 _ _ _ (decide ((lo' : Int) < (hi' : Int))) [] [] (by kernel_rfl) (fun _ h => nomatch h) _ _ hR' fun s₇ hR₇ => ?_
  by_cases hlt : lo' < hi'
  · rw [decide_eq_true (by omega : (lo' : Int) < (hi' : Int)), if_pos rfl, brW]
    refine wpAny_execs_cons (xasgN (ok _) rfl (by kernel_rfl) (wpAny_BinOp (wpAny_BinOp ((ok _).name hR₇ (v := .int lo') (by kernel_rfl) fun v1 hv1 => (ok _).name hR₇ (v := .int hi') (by kernel_rfl) fun v2 hv2 => ?_))))
    obtain ⟨t1, rfl⟩ := hv1
    obtain ⟨t2, rfl⟩ := hv2
    refine PySem.P.add_int (wpAny_Constant_int (floordiv_int (by decide) ?_ (.inl (PyProof.noPylong_small (by decide)))))
    have emid : ((lo' : Int) + (hi' : Int)).fdiv 2 = (((lo' + hi') / 2 : Nat) : Int) := by
      rw [Int.fdiv_eq_ediv_of_nonneg _ (by decide)]; omega
    rw [emid]
    refine ⟨.int ((lo' + hi') / 2 : Nat), _, _, ⟨_, rfl⟩, hR₇.toks _, fun s₈ hR₈ => ?_⟩
    have hm : (lo' + hi') / 2 ≤ l.length := by omega
    have hR₈ : RF s (hideAll s.heap (frs.map (·.1))) (envAt fBR L 48) L (LedF frs) (LC lo' hi' ++ [(sN "mid", .int ((lo' + hi') / 2 : Nat))]) [] s₈ := hR₈
    refine wpAny_execs_cons (wpAny_If ?_)
    have fin : ∀ s₉, RF s (hideAll s.heap (frs.map (·.1))) (envAt fBR L 48) L (LedF frs) (LC lo' hi' ++ [(sN "mid", .int ((lo' + hi') / 2 : Nat))]) [] s₉ →
        wpAny (model PG w) (A.deeper (envAt fBR L 48)) (execs (if decide (kf ((lo' + hi') / 2) ≤ j) then [biLo 24] else [biUp 22]) (envAt fBR L 48)) (fun f s₃ => f = .next ∧ ∃ m, m < hi' - lo' ∧ ∃ lo' hi' : Nat, m = hi' - lo' ∧ lo ≤ lo' ∧ lo' ≤ hi' ∧ hi' ≤ l.length + 1 ∧ (∀ i, lo ≤ i → i < lo' → kf i ≤ j) ∧ (∀ i, hi' ≤ i → i ≤ l.length → j < kf i) ∧
          RF s (hideAll s.heap (frs.map (·.1))) (envAt fBR L 48) L (LedF frs) (LC lo' hi') [] s₃)
          (fun e s' => wpAny (model PG w) (A.deeper (envAt fBR L 48)) (leaving (envAt fBR L 48) e) (fun _ s'' => R (.error e) s'') (fun e' s'' => R (.error e') s'') s') s₉ := by
      intro s₉ hR₉
      by_cases hc : kf ((lo' + hi') / 2) ≤ j
      · rw [decide_eq_true hc, if_pos rfl]
        refine xrun (ok _) 10 .next (LC ((lo' + hi') / 2 + 1) hi' ++ [(sN "mid", .int ((lo' + hi') / 2 : Nat))]) [] [] (by kernel_rfl) (fun _ h => nomatch h) hR₉ fun s₁₀ hR₁₀ fl hfl => ?_
        cases fl <;> first | exact hfl.elim | skip
        refine ⟨rfl, hi' - ((lo' + hi') / 2 + 1), by omega, (lo' + hi') / 2 + 1, hi', rfl, by omega, by omega, h3, fun i q1 q2 => mono i _ (by omega) hm hc, h5, hR₁₀.forget fun y v h => lookup_take 5 (LC ((lo' + hi') / 2 + 1) hi' ++ [(sN "mid", .int ((lo' + hi') / 2 : Nat))]) h⟩
      · rw [decide_eq_false hc]
        refine xrun (ok _) 10 .next (LC lo' ((lo' + hi') / 2) ++ [(sN "mid", .int ((lo' + hi') / 2 : Nat))]) [] [] (by kernel_rfl) (fun _ h => nomatch h) hR₉ fun s₁₀ hR₁₀ fl hfl => ?_
        cases fl <;> first | exact hfl.elim | skip
        refine ⟨rfl, (lo' + hi') / 2 - lo', by omega, lo', (lo' + hi') / 2, rfl, h1, by omega, by omega, h4, fun i q1 q2 => Nat.lt_of_not_le fun q => hc (mono _ i q1 q2 q), hR₁₀.forget fun y v h => lookup_take 5 (LC lo' ((lo' + hi') / 2) ++ [(sN "mid", .int ((lo' + hi') / 2 : Nat))]) h⟩
    refine wpAny_isTrue_Compare1 ((ok _).name hR₈ (v := .int x) (by kernel_rfl) fun v3 hv3 => key_ev (l := l) (kf := kf) (m := (lo' + hi') / 2) hk Bs sk fa hL hL0 (by omega) (ok _) la K pl hm (by kernel_rfl) (by kernel_rfl) (by kernel_rfl) hR₈ fun v s₉ hv hR₉ => ?_)
    refine wp_cmp (op := .Lt) (b := .int (kf ((lo' + hi') / 2))) (a := .int x) (r := .bool (decide (x < (kf ((lo' + hi') / 2) : Int)))) rfl hv3 hv fun v4 hv4 => ?_
    cases hv4
    refine wpAny_truthy_bool ?_
    have ec : decide (x < (kf ((lo' + hi') / 2) : Int)) = !decide (kf ((lo' + hi') / 2) ≤ j) := by
      rw [← decide_not, decide_eq_decide]; omega
    rw [ec]
    have z := fin s₉ hR₉
    by_cases hc : kf ((lo' + hi') / 2) ≤ j
    · rw [decide_eq_true hc] at z ⊢
      exact wpAny_mono z (fun f s₃ q => by obtain ⟨rfl, q⟩ := q; exact wpAny_execs_nil q) fun _ _ q => q
    · rw [decide_eq_false hc] at z ⊢
      exact wpAny_mono z (fun f s₃ q => by obtain ⟨rfl, q⟩ := q; exact wpAny_execs_nil q) fun _ _ q => q
  · rw [decide_eq_false (by omega : ¬ (lo' : Int) < (hi' : Int))]
    have hR₇ : RF s (hideAll s.heap (frs.map (·.1))) (envAt fBR L 48) L (LedF frs) (LC lo' hi') [] s₇ := hR₇
    refine xrun (ok _) 10 (.ret (.int lo')) (LC lo' hi') [] [] (by kernel_rfl) (fun _ h => nomatch h) hR₇ fun s₈ hR₈ fl hfl => ?_
    cases fl <;> first | exact hfl.elim | skip
    have e : lo' = hi' := by omega
    subst e
    obtain ⟨o1, o2⟩ := hR₈.outK fa
    exact post _ _ lo' hfl h1 h3 h4 h5 o1 o2
end
end Mine
end -- H12
section -- H13
set_option maxRecDepth 100000
set_option maxHeartbeats 4000000
namespace Mine
section
variable {w : World} {mg mb : Str → Option Value} {b₀ : Heap} {A : Around} {s s₀ s' : Shared} {env : Env} {L : Addr} {frs e : Objs} {outer : List Env} {loc : Loc} {fp : List Addr}
/-- behind a call that raises and catches within -/
theorem RF.keptG (fa : FrsAt frs outer b₀ s₀.heap) (hf : env.frame = some L) (h : RF s₀ (hideAll s₀.heap (fp ++ frs.map (·.1))) env L (LedF frs) loc e s) (k : KeptF (env :: outer) [] s.heap s'.heap) (hs : SameRest s s') : RF s₀ (hideAll s₀.heap (fp ++ frs.map (·.1))) env L (LedF frs) loc e s' := by
  obtain ⟨h1, m, own, F, N, l, f', rfl, up, off⟩ := h
  have ofA : ∀ b, b ≠ L → b ∉ frs.map (·.1) → b ∉ frA (env :: outer) := fun b h1 h2 q => by
    rw [frA, List.filterMap_cons, hf] at q
    rcases List.mem_cons.mp q with q | q
    · exact h1 q
    · rw [fa.names] at h2; exact h2 q
  obtain ⟨f'', up', at'⟩ := up.step (hp := s.heap) (hp' := s'.heap) (fun p hp => (N p (List.mem_append_right _ hp)).1) (fun p hp => (fa.at_ p hp).2.2) (fun x o e nf => k.upto x o e (fun q => nomatch q) nf)
  have hL : ∀ b o, (hideAll s₀.heap (fp ++ frs.map (·.1))).get? b = some o → b ≠ L := fun b o e => Nat.ne_of_lt (Nat.lt_of_lt_of_le (Heap.lt_size e) F.above)
  refine ⟨h1.trans hs, m, e ++ f'', ⟨?_, fun b o e => ?_, F.above⟩, fun p hp => ?_, l, f'', rfl, up', off⟩
  · obtain ⟨oL, es, ep, eL, dL, r⟩ := F.ns
    obtain ⟨sl, e2⟩ := k.upto L oL eL (fun q => nomatch q) (fun vs => by rw [dL]; exact fun q => nomatch q)
    exact ⟨_, es, ep, e2, dL, r⟩
  · refine k.old b o (F.keep b o e) (fun q => nomatch q) (ofA b (hL b o e) fun q => ?_)
    rw [hideAll_none _ (List.mem_append_right _ q)] at e; cases e
  · rcases List.mem_append.mp hp with hp | hp
    · have P := N p (List.mem_append_left _ hp)
      exact ⟨k.old _ _ P.1 (fun q => nomatch q) (ofA _ P.2.1 (off p hp)), P.2⟩
    · have hn : p.1 ∈ f'.map (·.1) := by rw [up.names, ← up'.names]; exact List.mem_map_of_mem hp
      obtain ⟨q, hq, e⟩ := List.mem_map.mp hn
      have P := N q (List.mem_append_right _ hq)
      rw [e] at P
      exact ⟨at' p hp, P.2⟩
/-- the stack within -/
theorem RF.stkG (fa : FrsAt frs outer b₀ s₀.heap) (hf : env.frame = some L) (hke : env.scope.kind = .function) (sk : Stk A outer b₀ s₀.heap) (hL0 : b₀.get? L = none) (hfp : ∀ a ∈ fp, b₀.get? a = none) (h : RF s₀ (hideAll s₀.heap (fp ++ frs.map (·.1))) env L (LedF frs) loc e s) : Stk (A.deeper env) (env :: outer) b₀ s.heap := by
  obtain ⟨h1, m, own, F, N, l, f', rfl, up, off⟩ := h
  refine ⟨sk.hd, Around.frames_deeper sk.fr, fun b o e => F.keep b o (hideAll_get _ (sk.st b o e) fun q => ?_), .cons (by rw [hke]; decide) hf F.ns hL0 (frames_on (fun b o e hb => ?_) sk.ff)⟩
  · rcases List.mem_append.mp q with q | q
    · rw [hfp _ q] at e; cases e
    · obtain ⟨p, hp, rfl⟩ := List.mem_map.mp q
      rw [(fa.at_ p hp).2.1] at e; cases e
  · have hb : b ∈ frA outer := hb
    rw [← fa.names] at hb
    obtain ⟨p, hp, rfl⟩ := List.mem_map.mp hb
    obtain ⟨sl, q⟩ := up.find p hp
    have e2 := (fa.at_ p hp).1
    rw [e] at e2
    cases e2
    exact ⟨_, (N _ (List.mem_append_right _ q)).1, rfl⟩
/-- what stands behind -/
theorem RF.outKG (fa : FrsAt frs outer b₀ s₀.heap) (h : RF s₀ (hideAll s₀.heap (fp ++ frs.map (·.1))) env L (LedF frs) loc e s) : SameRest s₀ s ∧ KeptF outer fp s₀.heap s.heap := by
  obtain ⟨h1, m, own, F, N, l, f', rfl, up, off⟩ := h
  refine ⟨h1, fun b o e hb q => F.keep b o (hideAll_get _ e fun z => (List.mem_append.mp z).elim hb fun z => q (by rw [← fa.names]; exact z)), fun b o e hbf nf => ?_⟩
  by_cases hb : b ∈ frs.map (·.1)
  · obtain ⟨p, hp, rfl⟩ := List.mem_map.mp hb
    obtain ⟨sl, q⟩ := up.find p hp
    have e2 := (fa.at_ p hp).1
    rw [e] at e2
    cases e2
    exact ⟨sl, (N _ (List.mem_append_right _ q)).1⟩
  · exact ⟨o.slots, F.keep b o (hideAll_get _ e fun z => (List.mem_append.mp z).elim hbf hb)⟩
theorem RF.growFG (h : RF s₀ (hideAll s₀.heap (fp ++ frs.map (·.1))) env L (LedF frs) loc e s) (k : s.heap.StaysIn s'.heap) (hs : SameRest s s') (nw : Objs) (hn : ∀ p ∈ nw, s.heap.get? p.1 = none ∧ s'.heap.get? p.1 = some p.2) : RF s₀ (hideAll s₀.heap (fp ++ frs.map (·.1))) env L (LedF frs) loc (nw ++ e) s' := by
  obtain ⟨h1, m, own, F, N, l, f', rfl, up, off⟩ := h
  obtain ⟨oL, hL⟩ : ∃ o, s.heap.get? L = some o := by obtain ⟨o, _, _, e, _⟩ := F.ns; exact ⟨o, e⟩
  refine ⟨h1.trans hs, m, nw ++ e ++ f', frAfter (fp := []) F (fun b o e _ => k b o e) (fun _ q => nomatch q), fun p hp => ?_, l, f', rfl, up, fun p hp => ?_⟩
  · rw [List.append_assoc] at hp
    rcases List.mem_append.mp hp with hp | hp
    · obtain ⟨a, b⟩ := hn p hp
      refine ⟨b, (fun q => by rw [q, hL] at a; cases a), ?_⟩
      cases z : (hideAll s₀.heap (fp ++ frs.map (·.1))).get? p.1 with
      | none => rfl
      | some o => rw [F.keep _ _ z] at a; cases a
    · exact ⟨k _ _ (N _ hp).1, (N _ hp).2⟩
  · rcases List.mem_append.mp hp with hp | hp
    · intro q
      rw [← up.names] at q
      obtain ⟨x, hx, ex⟩ := List.mem_map.mp q
      have := (N x (List.mem_append_right _ hx)).1
      rw [ex, (hn p hp).1] at this; cases this
    · exact off p hp
end
end Mine
end -- H13
section -- H14
set_option maxRecDepth 100000
set_option maxHeartbeats 4000000
namespace Mine
section
variable {w : World} {mg mb : Str → Option Value} {b₀ : Heap} {A : Around} {s s₀ s' : Shared} {env : Env} {L : Addr} {frs e e' : Objs} {outer : List Env} {loc : Loc} {fp : List Addr}
/-- one object of the ledger changes -/
theorem RF.updF {a : Addr} {h' : Heap} {tk : Nat} (h : RF s₀ (hideAll s₀.heap (fp ++ frs.map (·.1))) env L (LedF frs) loc e s) (ha : ∃ o, (a, o) ∈ e) (hx : ∀ b o, b ≠ a → s.heap.get? b = some o → h'.get? b = some o)
    (hm : ∀ p ∈ e', (p ∈ e ∧ p.1 ≠ a) ∨ (p.1 = a ∧ h'.get? a = some p.2) ∨ (s.heap.get? p.1 = none ∧ h'.get? p.1 = some p.2)) : RF s₀ (hideAll s₀.heap (fp ++ frs.map (·.1))) env L (LedF frs) loc e' { s with heap := h', toks := tk } := by
  obtain ⟨h1, m, own, F, N, l, f', rfl, up, off⟩ := h
  obtain ⟨o, ho⟩ := ha
  have Na := N _ (List.mem_append_left _ ho)
  have offa := off _ ho
  refine ⟨h1.put _ _, m, e' ++ f', frAfter (fp := [a]) F (fun b o e hb => hx b o (fun q => hb (by rw [q]; exact .head _)) e) (fun b hb => by rw [List.mem_singleton.mp hb]; exact Na.2), fun p hp => ?_, l, f', rfl, up, fun p hp => ?_⟩
  · rcases List.mem_append.mp hp with hp | hp
    · rcases hm p hp with ⟨q1, q2⟩ | ⟨q1, q2⟩ | ⟨q1, q2⟩
      · have P := N _ (List.mem_append_left _ q1)
        exact ⟨hx _ _ q2 P.1, P.2⟩
      · rw [q1]; exact ⟨q2, Na.2⟩
      · obtain ⟨oL, _, _, hL, _⟩ := F.ns
        refine ⟨q2, (fun q => by rw [q, hL] at q1; cases q1), ?_⟩
        cases z : (hideAll s₀.heap (fp ++ frs.map (·.1))).get? p.1 with
        | none => rfl
        | some o => rw [F.keep _ _ z] at q1; cases q1
    · have P := N _ (List.mem_append_right _ hp)
      refine ⟨hx _ _ (fun q => offa ?_) P.1, P.2⟩
      rw [← up.names]
      dsimp only
      rw [← q]
      exact List.mem_map_of_mem hp
  · rcases hm p hp with ⟨q1, q2⟩ | ⟨q1, q2⟩ | ⟨q1, q2⟩
    · exact off _ q1
    · rw [q1]; exact offa
    · intro q
      rw [← up.names] at q
      obtain ⟨x, hx, ex⟩ := List.mem_map.mp q
      have := (N x (List.mem_append_right _ hx)).1
      rw [ex, q1] at this; cases this
theorem RF.weak (h : RF s₀ (hideAll s₀.heap (fp ++ frs.map (·.1))) env L (LedF frs) loc e s) (hm : ∀ p ∈ e', p ∈ e) : RF s₀ (hideAll s₀.heap (fp ++ frs.map (·.1))) env L (LedF frs) loc e' s := by
  obtain ⟨h1, m, own, F, N, l, f', rfl, up, off⟩ := h
  refine ⟨h1, m, e' ++ f', F, fun p hp => ?_, l, f', rfl, up, fun p hp => off _ (hm p hp)⟩
  rcases List.mem_append.mp hp with hp | hp
  · exact N _ (List.mem_append_left _ (hm p hp))
  · exact N _ (List.mem_append_right _ hp)
theorem RF.here (h : RF s₀ (hideAll s₀.heap (fp ++ frs.map (·.1))) env L (LedF frs) loc e s) {p : Addr × Obj} (hp : p ∈ e) : s.heap.get? p.1 = some p.2 := by
  obtain ⟨h1, m, own, F, N, l, f', rfl, up, off⟩ := h
  exact (N _ (List.mem_append_left _ hp)).1
theorem RF.off (fa : FrsAt frs outer b₀ s₀.heap) (hf : env.frame = some L) (h : RF s₀ (hideAll s₀.heap (fp ++ frs.map (·.1))) env L (LedF frs) loc e s) {p : Addr × Obj} (hp : p ∈ e) : p.1 ∉ frA (env :: outer) := by
  obtain ⟨h1, m, own, F, N, l, f', rfl, up, off⟩ := h
  intro z
  rw [frA, List.filterMap_cons, hf] at z
  rcases List.mem_cons.mp z with z | z
  · exact (N _ (List.mem_append_left _ hp)).2.1 z
  · have z : p.1 ∈ frA outer := z
    rw [← fa.names] at z; exact off _ hp z
/-- list(range(n)) -/
theorem list_range_c {E : Value → Shared → Prop} {r : Addr} {n : Nat} {t u v : Tok} {Q : Value → Shared → Prop} (hh : A.handled = none) (hr : IsRange s.heap r 0 n 1 t u v) (hn : n ≤ 100000)
    (h : ∀ P s' vs c, SameRest s s' → s.heap.StaysIn s'.heap → s.heap.get? P = none → s'.heap.get? P = some (lstObj vs c) → Sims vs ((List.range n).map fun (i : Nat) => MV.int (i : Int)) → Q (.ref P) s') :
    wpAny (model PG w) A (call (.type "list") [.ref r]) Q E s := by
  refine call_list_range (n := n) hh hr (small_one (by omega) (by omega) (by omega) (by omega)) (by rw [rangeSize_one]; split <;> omega) (by omega) fun h' tk acc' c' hk hS hacc => ?_
  refine h _ _ acc'.toList c' ⟨rfl, rfl, rfl⟩ hk (Heap.get?_none_of_le (Nat.le_refl _)) (by simpa [lstObj] using hS) ?_
  have key : ∀ (m : Nat) (l : List Value) (k : Nat), l.length = m → (∀ j v, l[j]? = some v → ∃ t, v = Value.int ((k + j : Nat) : Int) t) → Sims l ((List.range m).map fun (i : Nat) => MV.int ((k + i : Nat) : Int)) := by
    intro m
    induction m with
    | zero => intro l k hl _; rw [List.length_eq_zero_iff.mp hl]; exact .nil
    | succ m ih =>
      intro l k hl hv
      cases l with
      | nil => cases hl
      | cons a r =>
        rw [List.range_succ_eq_map, List.map_cons, List.map_map]
        refine .cons (hv 0 a rfl) ?_
        have := ih r (k + 1) (by simpa using hl) fun j v e => by
          obtain ⟨t, rfl⟩ := hv (j + 1) v (by simpa using e)
          exact ⟨t, by rw [show k + (j + 1) = k + 1 + j from by omega]⟩
        have e2 : ((fun (i : Nat) => MV.int ((k + i : Nat) : Int)) ∘ Nat.succ) = fun (i : Nat) => MV.int ((k + 1 + i : Nat) : Int) := by
          funext i
          show MV.int ((k + (i + 1) : Nat) : Int) = MV.int ((k + 1 + i : Nat) : Int)
          rw [show k + (i + 1) = k + 1 + i from by omega]
        rw [e2]; exact this
  have z := key n acc'.toList 0 (by simpa using hacc.1) fun j v e => by
    obtain ⟨t, rfl⟩ := hacc.2 j v (by simpa using e)
    exact ⟨t, by simp⟩
  simpa using z
end
end Mine
end -- H14
section -- H15
set_option maxRecDepth 100000
set_option maxHeartbeats 4000000
namespace Mine
noncomputable def fFound : FuncData := fdAt 778
theorem fo_here (w : World) : (KK w).lookup 778 = some ⟨.type "function", none, .func fFound, #[]⟩ := by kernel_rfl
theorem fo_code (w : World) : codeIn (KK w) fFound.code fFound.qualname = true := by kernel_rfl
theorem fo_binds (w : World) (t : Value) (n : Int) (u : Tok) : runK (KK w) 100 (bindArgs fFound ⟨[t, .int n u], []⟩) = some [(txN, t), (sN "size", .int n u)] := by kernel_rfl
noncomputable abbrev foEnv (L : Addr) : Env := envX fFound.qualname fFound.scope L 778 fFound.code [(txN, L + 1)]
theorem fo_env (L : Addr) : newEnv fFound.scope L fFound.globals (cellsFrom (L + 1) fFound.scope.names []) (fFound.qualname ++ ".<locals>.") (some 778) fFound.code none fFound.builtins = foEnv L := by kernel_rfl
noncomputable abbrev foPl : Stmt := .Assign [.Name (sN "places") (PS 817 4 817 10)] (.Call (.Name (sN "list") (PS 817 13 817 17)) [.Call (.Name (sN "range") (PS 817 18 817 23)) [.BinOp (.Call (.Name (sN "len") (PS 817 24 817 27)) [.Name txN (PS 817 28 817 32)] [] (PS 817 24 817 33)) .Add (.Constant (.int 1) 0 (PS 817 36 817 37)) (PS 817 24 817 37)] [] (PS 817 18 817 38)] [] (PS 817 13 817 39)) (PS 817 4 817 39)
theorem fo0 : stAt (bodyOf fFound) 0 = foPl := by kernel_rfl
noncomputable abbrev foLam : Stmt := .Assign [.Name (sN "asked") (PS 818 4 818 9)] (.Lambda lamParams lamBody lamScope (PS 818 12 818 55)) (PS 818 4 818 55)
theorem fo1 : stAt (bodyOf fFound) 1 = foLam := by kernel_rfl
noncomputable abbrev foFd : Stmt := .Assign [.Name (sN "found") (PS 819 4 819 9)] (.List [] (PS 819 12 819 14)) (PS 819 4 819 14)
theorem fo2 : stAt (bodyOf fFound) 2 = foFd := by kernel_rfl
noncomputable abbrev foL : Stmt := .Assign [.Name (sN "since") (PS 823 12 823 17)] (.Call (.Name (sN "bisect_left") (PS 823 20 823 31)) [.Name (sN "places") (PS 823 32 823 38), .BinOp (.Name (sN "j") (PS 823 40 823 41)) .Add (.Constant (.int 1) 0 (PS 823 44 823 45)) (PS 823 40 823 45)] [⟨some (sN "lo"), .Name (sN "since") (PS 823 50 823 55), PS 823 47 823 55⟩, ⟨some (sN "key"), .Name (sN "asked") (PS 823 61 823 66), PS 823 57 823 66⟩] (PS 823 20 823 67)) (PS 823 12 823 67)
noncomputable abbrev foR : Stmt := .Assign [.Name (sN "since") (PS 825 12 825 17)] (.Call (.Name (sN "bisect_right") (PS 825 20 825 32)) [.Name (sN "places") (PS 825 33 825 39), .Name (sN "j") (PS 825 41 825 42)] [⟨some (sN "lo"), .Name (sN "since") (PS 825 47 825 52), PS 825 44 825 52⟩, ⟨some (sN "key"), .Name (sN "asked") (PS 825 58 825 63), PS 825 54 825 63⟩] (PS 825 20 825 64)) (PS 825 12 825 64)
noncomputable abbrev foIf : Stmt := .If (.Compare (.BinOp (.Name (sN "j") (PS 822 11 822 12)) .Mod (.Constant (.int 2) 0 (PS 822 15 822 16)) (PS 822 11 822 16)) [.Eq] [.Constant (.int 0) 0 (PS 822 20 822 21)] (PS 822 11 822 21)) [foL] [foR] (PS 822 8 825 64)
noncomputable abbrev foAp : Stmt := .Expr (.Call (.Attribute (.Name (sN "found") (PS 826 8 826 13)) (sN "append") (PS 826 8 826 20)) [.Name (sN "since") (PS 826 21 826 26)] [] (PS 826 8 826 27)) (PS 826 8 826 27)
noncomputable abbrev foFor : Stmt := .For (.Name (sN "j") (PS 821 8 821 9)) (.Call (.Name (sN "range") (PS 821 13 821 18)) [.Name (sN "size") (PS 821 19 821 23)] [] (PS 821 13 821 24)) [foIf, foAp] [] (PS 821 4 826 27)
theorem fo4 : stAt (bodyOf fFound) 4 = foFor := by kernel_rfl
noncomputable abbrev foRet : Stmt := .Return (some (.Name (sN "found") (PS 827 11 827 16))) (PS 827 4 827 16)
theorem fo5 : (bodyOf fFound).drop 5 = [foRet] := by kernel_rfl
theorem fo_clos (L : Addr) : closureFor lamScope (foEnv L) = pure [(txN, L + 1)] := by kernel_rfl
theorem fo_qual (L : Addr) : (foEnv L).qual ++ sN "<lambda>" = lamQual := by kernel_rfl
/-- the place where the key first passes j -/
noncomputable def FoundAt (kf : Nat → Nat) (n j r : Nat) : Prop := r ≤ n + 1 ∧ (∀ i, i < r → kf i ≤ j) ∧ ∀ i, r ≤ i → i ≤ n → j < kf i
end Mine
end -- H15
section -- H16
set_option maxRecDepth 100000
set_option maxHeartbeats 4000000
namespace Mine
section
variable {w : World} {mg mb : Str → Option Value} {b₀ : Heap} {A : Around} {s : Shared} {R : Result → Shared → Prop} {l : List Nat} {t : Value} {outer : List Env} {kf : Nat → Nat}
/-- _law_found: up to its body -/
theorem found_enter {n : Nat} {u : Tok} (Bs : Base w mg mb b₀) (sk : Stk A outer b₀ s.heap) (hroom : A.depth < recursionLimit) (ht : Sim t (.str l)) (h0 : b₀.get? 773 = none) (hf : 773 ∉ frA outer) (hT : s.heap.get? 773 = some (tabObj #[]))
    (h : ∀ L s₁ frs oc tt, FrsAt frs outer b₀ s.heap → s.heap.get? L = none → b₀.get? L = none → Base w mg mb (hideAll s.heap ([773] ++ frs.map (·.1))) → oc.data = .cell (some (.str ⟨l.toArray⟩ tt)) →
      RF s (hideAll s.heap ([773] ++ frs.map (·.1))) (foEnv L) L (LedF frs) [(sN "size", .int n)] [(773, tabObj #[]), (L + 1, oc)] s₁ →
      wpAny (model PG w) (A.deeper (foEnv L)) (execs (bodyOf fFound) (foEnv L)) (fun fl s' => R (.ok (.ret (flowV fl))) s')
        (fun e s' => wpAny (model PG w) (A.deeper (foEnv L)) (leaving (foEnv L) e) (fun _ s'' => R (.error e) s'') (fun e' s'' => R (.error e') s'') s') s₁) :
    codeAny (model PG w) A (.call (.ref 778) ⟨[t, .int n u], []⟩) R s := by
  obtain ⟨frs, fa⟩ := frs_of sk.ff
  have X := (Bs.keeps sk.st).X
  refine codeAny_call_function hroom (X _ _ (fo_here w)) rfl (by kernel_rfl) (by kernel_rfl) (body := bodyOf fFound) (by kernel_rfl) (codeRec_of X (fo_code w)) (binds_run (Bs.keeps sk.st) 100 (fo_binds w t n u) _ _ _ _ ?_)
  have hcl : fFound.closure = [] := by kernel_rfl
  rw [hcl]
  refine wpAny_newFunctionEnv_cells (by kernel_rfl) (fun x hx => ?_) fun env he s' x => ?_
  · simp only [List.mem_cons, List.not_mem_nil, or_false] at hx
    rcases hx with rfl | rfl
    · exact .inr ⟨by kernel_rfl, by kernel_rfl⟩
    · exact .inl (by kernel_rfl)
  generalize hLd : s.heap.objs.size = L at *
  rw [fo_env] at he
  subst he
  refine ⟨((Bs.keeps sk.st).nl).keeps x.toInCall.keep, codeAny_func ?_⟩
  have nL : s.heap.get? L = none := Heap.get?_none_of_le (Nat.le_of_eq hLd)
  have nL1 : s.heap.get? (L + 1) = none := Heap.get?_none_of_le (by omega)
  have hL0 : b₀.get? L = none := by
    cases q : b₀.get? L with
    | none => rfl
    | some o => rw [sk.st _ _ q] at nL; cases nL
  have Bg : Base w mg mb (hideAll s.heap ([773] ++ frs.map (·.1))) := Bs.keeps fun b o e => hideAll_get _ (sk.st b o e) fun q => by
    rcases List.mem_append.mp q with q | q
    · rw [List.mem_singleton.mp q, h0] at e; cases e
    · obtain ⟨p, hp, rfl⟩ := List.mem_map.mp q
      rw [(fa.at_ p hp).2.1] at e; cases e
  obtain ⟨oc, hoc, hdc⟩ := x.cell txN (L + 1) (by kernel_rfl)
  obtain ⟨tt, rfl⟩ := ht
  have hdc : oc.data = .cell (some (.str ⟨l.toArray⟩ tt)) := hdc
  have hk := x.toInCall.keep
  have hg : ∀ {b : Addr}, s.heap.get? b = none → (hideAll s.heap ([773] ++ frs.map (·.1))).get? b = none := fun {b} e => by
    cases q : (hideAll s.heap ([773] ++ frs.map (·.1))).get? b with
    | none => rfl
    | some o => rw [of_hideAll _ q] at e; cases e
  obtain ⟨h₁, tk, es, _⟩ := x.done
  refine wpAny_mono (h L s' frs oc tt fa nL hL0 Bg hdc ⟨by rw [es]; exact ⟨rfl, rfl, rfl⟩, _, [(773, tabObj #[]), (L + 1, oc)] ++ frs, ⟨x.toInCall.ns, fun b o e => hk b o (of_hideAll _ e), Nat.le_of_eq ((hideAll_size _ _).trans hLd)⟩, fun p hp => ?_, ?_, frs, rfl, UpTo.refl _, fun p hp => ?_⟩) (fun fl s'' q => ?_) fun _ _ q => q
  · rcases List.mem_append.mp hp with hp | hp
    · simp only [List.mem_cons, List.not_mem_nil, or_false] at hp
      rcases hp with rfl | rfl
      · exact ⟨hk _ _ hT, (fun q => by rw [← q, hT] at nL; cases nL), hideAll_none _ (.head _)⟩
      · exact ⟨hoc, Nat.ne_of_gt (Nat.lt_succ_self L), hg nL1⟩
    · exact ⟨hk _ _ (fa.at_ p hp).1, (fun q => by rw [← q, (fa.at_ p hp).1] at nL; cases nL), hideAll_none _ (List.mem_append_right _ (List.mem_map_of_mem hp))⟩
  · intro y mv hy
    rw [List.lookup_cons] at hy
    by_cases e : y = sN "size"
    · subst e
      simp at hy
      subst hy
      exact ⟨.int n u, by kernel_rfl, ⟨u, rfl⟩, by kernel_rfl, by decide⟩
    · have e' : (y == sN "size") = false := beq_eq_false_iff_ne.mpr e
      rw [e'] at hy; simp at hy
  · simp only [List.mem_cons, List.not_mem_nil, or_false] at hp
    rw [fa.names]
    rcases hp with rfl | rfl
    · exact hf
    · intro q
      rw [← fa.names] at q
      obtain ⟨p, hp, e⟩ := List.mem_map.mp q
      have e : p.1 = L + 1 := e
      rw [← e, (fa.at_ p hp).1] at nL1; cases nL1
  · cases fl <;> exact q
end
end Mine
end -- H16
section -- H17
set_option maxRecDepth 100000
set_option maxHeartbeats 4000000
namespace Mine
section
variable {w : World} {mg mb : Str → Option Value} {b₀ : Heap} {A : Around} {s s₀ : Shared} {R : Result → Shared → Prop} {l : List Nat} {outer : List Env} {frs : Objs} {L : Addr} {fp : List Addr}
noncomputable abbrev RFo (s₀ : Shared) (fp : List Addr) (frs : Objs) (L : Addr) (loc : Loc) (e : Objs) (s : Shared) : Prop := RF s₀ (hideAll s₀.heap (fp ++ frs.map (·.1))) (foEnv L) L (LedF frs) loc e s
noncomputable abbrev asgF : List Str := [sN "places", sN "asked", sN "found", sN "since", sN "j"]
noncomputable abbrev foFace (w : World) : Face Objs := plainFace w fFound.scope asgF noE noS noC
/-- a call that makes objects, the ledger grows: one name is stored -/
theorem fo_places {E : Value → Shared → Prop} {n : Nat} {oc : Obj} {tt : Tok} {Q : Flow → Shared → Prop} (hh : A.handled = none) (ok : FaceOk (foFace w) PG w (A.deeper (foEnv L)) (foEnv L) E (RFo s₀ fp frs L)) (hlen : l.length ≤ 5000) (hd : oc.data = .cell (some (.str ⟨l.toArray⟩ tt)))
    (hR : RFo s₀ fp frs L [(sN "size", .int n)] [(773, tabObj #[]), (L + 1, oc)] s)
    (h : ∀ P s' vs c, Sims vs ((List.range (l.length + 1)).map fun (i : Nat) => MV.int (i : Int)) → RFo s₀ fp frs L [(sN "size", .int n), (sN "places", .val (.ref P))] [(P, lstObj vs c), (773, tabObj #[]), (L + 1, oc)] s' → Q .next s') :
    wpAny (model PG w) (A.deeper (foEnv L)) (exec foPl (foEnv L)) Q E s := by
  refine xasgN ok rfl (by kernel_rfl) (wp_call1 ok (fv := .type "list") (by kernel_rfl) rfl hR (wp_call1 ok (fv := .type "range") (by kernel_rfl) rfl hR (wpAny_BinOp (wp_call1 ok (fv := .builtin "len") (by kernel_rfl) rfl hR ?_))))
  refine wpAny_Name (wpAny_loadName_cell (by kernel_rfl) (by kernel_rfl) (by kernel_rfl) ⟨oc, hR.here (.tail _ (.head _)), hd⟩ ⟨⟨_, _, hR⟩, ?_⟩) (by decide)
  refine P.len_str (by rw [str_len]; omega) (wpAny_Constant_int (P.add_int ⟨⟨_, _, hR.toks _⟩, ?_⟩))
  rw [str_len]
  refine call_range_1 ?_
  have hR2 := (hR.push (o := { cls := .type "range", data := .fields #[.int 0 (s.toks + 1 + 1 + 1 + 1), .int ((l.length : Int) + 1) (s.toks + 1 + 1 + 1), .int 1 (s.toks + 1 + 1 + 1 + 1 + 1)] }) rfl).toks (s.toks + 1 + 1 + 1 + 1 + 1 + 1)
  refine ⟨⟨_, _, hR2⟩, ?_⟩
  refine list_range_c (n := l.length + 1) hh (t := s.toks + 1 + 1 + 1 + 1) (u := s.toks + 1 + 1 + 1) (v := s.toks + 1 + 1 + 1 + 1 + 1) (Heap.get?_push_size _ rfl) (by omega) fun P s' vs c hs hk hP0 hP hv => ?_
  have hR3 := RF.growFG (s := { s with heap := _, toks := _ }) hR2 hk hs [(P, lstObj vs c)] (fun p hp => by rw [List.mem_singleton.mp hp]; exact ⟨hP0, hP⟩)
  exact ⟨.val (.ref P), _, _, rfl, hR3, fun s'' hR4 => h P s'' vs c hv hR4⟩
end
end Mine
end -- H17
section -- H18
set_option maxRecDepth 100000
set_option maxHeartbeats 4000000
namespace Mine
theorem BuiltinsAt_keeps {h h' : Heap} {mg : Str → Option Value} {P : Addr} (x : h.BuiltinsAt mg P) (k : h.StaysIn h') : h'.BuiltinsAt mg P := by
  obtain ⟨bm, o, a, b, c, d, e, f⟩ := x
  exact ⟨bm, o, a, b, c, d, k _ _ e, f⟩
section
variable {w : World} {mg mb : Str → Option Value} {b₀ : Heap} {A : Around} {s s₀ : Shared} {R : Result → Shared → Prop} {l : List Nat} {outer : List Env} {frs : Objs} {L : Addr} {fp : List Addr}
theorem fo_lambda {E : Value → Shared → Prop} {loc : Loc} {rest : Objs} {Q : Flow → Shared → Prop} (Bg : Base w mg mb (hideAll s₀.heap (fp ++ frs.map (·.1)))) (hbm : (hideAll s₀.heap (fp ++ frs.map (·.1))).BuiltinsAt mg 773) (hgP : mainGlobals ≠ 773) (ok : FaceOk (foFace w) PG w (A.deeper (foEnv L)) (foEnv L) E (RFo s₀ fp frs L))
    (hr : ∀ p ∈ rest, p.1 ≠ 773) (hR : RFo s₀ fp frs L loc ((773, tabObj #[]) :: rest) s)
    (h : ∀ lam c' oc vs tq pm ctv tb s', (∃ ps, tb = tabObj ps) → oc.data = .fields vs → vs[1]? = some (.str lamQual tq) → RFo s₀ fp frs L (put (sN "asked") (.val (.ref lam)) loc) ((lam, lamObj (L + 1) pm c' ctv) :: (c', oc) :: (773, tb) :: rest) s' → Q .next s') :
    wpAny (model PG w) (A.deeper (foEnv L)) (exec foLam (foEnv L)) Q E s := by
  have hR' := hR
  obtain ⟨h1, m, own, F, N, lr, D⟩ := hR'
  have B := Bg.keeps F.keep
  refine xasgN ok rfl (by kernel_rfl) (kla_eval rfl ?_)
  show wpAny _ _ (makeFunction (sN "<lambda>") ((foEnv L).qual ++ sN "<lambda>") lamParams (.expr lamBody) lamScope (foEnv L) [] [] [] _ _) _ _ _
  rw [fo_qual]
  refine kla_makeFunction (c := 777) (P := 773) (ps := #[]) (mg := mg) (fo_clos L) rfl B.g (by kernel_rfl) (codeHd_of_K B.X (by kernel_rfl)) (hR.here (.head _)) (by first | trivial | decide | exact .nil) rfl hgP (BuiltinsAt_keeps hbm F.keep) fun c' ctv h' tk hx hge hlt hrec htb => ?_
  obtain ⟨c₂, oc, vs, tq, e2, hoc, hdc, hq⟩ := hrec
  cases e2
  have nw : ∀ b, s.heap.objs.size ≤ b → s.heap.get? b = none := fun b hb => Heap.get?_none_of_le hb
  have hsz : s.heap.objs.size ≤ h'.objs.size := Nat.le_trans hge (Nat.le_of_lt hlt)
  refine ⟨.val (.ref h'.objs.size), loc, (h'.objs.size, lamObj (L + 1) ((mg "__name__").getD .none) c' ctv) :: (c', oc) :: (773, tabObj (#[] ++ #[rawInt (PS 818 12 818 55).line, rawInt (PS 818 12 818 55).col, .ref c'])) :: rest, rfl,
    hR.updF (a := 773) ⟨_, .head _⟩ (fun b o hb e => Heap.get?_push_of_some _ (hx b o hb e)) (fun p hp => ?_), fun s'' hR2 => h _ _ _ _ _ _ _ _ _ ⟨_, rfl⟩ hdc hq hR2⟩
  rcases List.mem_cons.mp hp with rfl | hp
  · exact .inr (.inr ⟨nw _ hsz, Heap.get?_push_size _ rfl⟩)
  rcases List.mem_cons.mp hp with rfl | hp
  · exact .inr (.inr ⟨nw _ hge, Heap.get?_push_of_some _ hoc⟩)
  rcases List.mem_cons.mp hp with rfl | hp
  · exact .inr (.inl ⟨rfl, Heap.get?_push_of_some _ htb⟩)
  · exact .inl ⟨.tail _ hp, hr p hp⟩
end
end Mine
end -- H18
section -- H19
set_option maxRecDepth 100000
set_option maxHeartbeats 4000000
namespace Mine
section
variable {w : World} {mg mb : Str → Option Value} {b₀ : Heap} {A : Around} {s s₀ : Shared} {R : Result → Shared → Prop} {l : List Nat} {outer : List Env} {frs : Objs} {L : Addr} {fp : List Addr} {kf : Nat → Nat}
/-- what the loop leans on -/
structure FoRest (l : List Nat) (L lam c' P : Addr) (e : Objs) : Prop where
  lam : ∃ pm ctv, (lam, lamObj (L + 1) pm c' ctv) ∈ e
  code : ∃ oc vs t, (c', oc) ∈ e ∧ oc.data = .fields vs ∧ vs[1]? = some (.str lamQual t)
  cel : ∃ oc t, (L + 1, oc) ∈ e ∧ oc.data = .cell (some (.str ⟨l.toArray⟩ t))
  pl : ∃ vs c, (P, lstObj vs c) ∈ e ∧ Sims vs ((List.range (l.length + 1)).map fun (i : Nat) => MV.int (i : Int))
theorem FoRest.lamAt {lam c' P : Addr} {e : Objs} {loc : Loc} (fo : FoRest l L lam c' P e) (fa : FrsAt frs outer b₀ s₀.heap) (hR : RFo s₀ fp frs L loc e s) : LamAt lam (L + 1) c' l (foEnv L :: outer) b₀ s.heap ∧ PlAt P l.length (foEnv L :: outer) s.heap := by
  obtain ⟨⟨pm, ctv, h1⟩, ⟨oc, vs, t, h2, h3, h4⟩, ⟨ox, tx, h5, h6⟩, ⟨pv, pc, h7, h8⟩⟩ := fo
  exact ⟨⟨⟨pm, ctv, hR.here h1⟩, ⟨oc, vs, t, hR.here h2, h3, h4⟩, ⟨ox, tx, hR.here h5, h6⟩, hR.off fa rfl h5, hR.off fa rfl h1, hR.off fa rfl h2⟩, ⟨⟨pv, pc, hR.here h7, h8⟩, hR.off fa rfl h7⟩⟩
theorem FoRest.sub {lam c' P : Addr} {e e' : Objs} (fo : FoRest l L lam c' P e) (h : ∀ p ∈ e, p ∈ e') : FoRest l L lam c' P e' := by
  obtain ⟨⟨pm, ctv, h1⟩, ⟨oc, vs, t, h2, h3, h4⟩, ⟨ox, tx, h5, h6⟩, ⟨pv, pc, h7, h8⟩⟩ := fo
  exact ⟨⟨pm, ctv, h _ h1⟩, ⟨oc, vs, t, h _ h2, h3, h4⟩, ⟨ox, tx, h _ h5, h6⟩, ⟨pv, pc, h _ h7, h8⟩⟩
theorem fo_if {E : Value → Shared → Prop} {loc : Loc} {e : Objs} {Q : Flow → Shared → Prop} {lam c' P : Addr} {j lo : Nat} (Bs : Base w mg mb b₀) (sk : Stk A outer b₀ s₀.heap) (fa : FrsAt frs outer b₀ s₀.heap) (hL0 : b₀.get? L = none) (hfp : ∀ a ∈ fp, b₀.get? a = none) (hroom : A.depth < 780) (Bg : Base w mg mb (hideAll s₀.heap (fp ++ frs.map (·.1))))
    (ok : FaceOk (foFace w) PG w (A.deeper (foEnv L)) (foEnv L) E (RFo s₀ fp frs L)) (K : KeyOk l kf) (mono : ∀ a b, a ≤ b → b ≤ l.length → kf a ≤ kf b) (fo : FoRest l L lam c' P e) (hlo : lo ≤ l.length + 1)
    (l1 : loc.lookup (sN "j") = some (.int j)) (l2 : loc.lookup (sN "since") = some (.int lo)) (l3 : loc.lookup (sN "places") = some (.val (.ref P))) (l4 : loc.lookup (sN "asked") = some (.val (.ref lam)))
    (hR : RFo s₀ fp frs L loc e s)
    (h : ∀ r s', lo ≤ r → r ≤ l.length + 1 → (∀ i, lo ≤ i → i < r → kf i ≤ j) → (∀ i, r ≤ i → i ≤ l.length → j < kf i) → RFo s₀ fp frs L (put (sN "since") (.int r) loc) e s' → Q .next s') :
    wpAny (model PG w) (A.deeper (foEnv L)) (exec foIf (foEnv L)) Q E s := by
  have mono' : ∀ a b, a ≤ b → b ≤ l.length → kf b ≤ j → kf a ≤ j := fun a b h1 h2 h3 => Nat.le_trans (mono a b h1 h2) h3
  refine wpAny_If (wpAny_isTrue_Compare1 (wpAny_BinOp (ok.name hR l1 fun v1 hv1 => wpAny_Constant_int ?_)))
  obtain ⟨t1, rfl⟩ := hv1
  refine PyProof.Rows.mod_int (by decide) (wpAny_Constant_int (PySem.P.eq_int (wpAny_truthy_bool ?_)))
  have hR2 := hR.toks (s.toks + 1 + 1 + 1)
  have hAX := Bg.X
  split
  · refine wpAny_execs_cons (xasgN ok rfl (by kernel_rfl) (wpAny_Call_ofName (ok.gname hR2 (fv := .ref 57) (by kernel_rfl) ?_)))
    refine callWith_KW (K := KK w) Bg.X (by kernel_rfl) rfl (Calls.spliced_cons (ok.name hR2 l3 fun v1 hv1 => Calls.spliced_cons ?_))
    cases hv1
    refine wpAny_BinOp (ok.name hR2 l1 fun v2 hv2 => wpAny_Constant_int ?_)
    obtain ⟨t2, rfl⟩ := hv2
    refine PySem.P.add_int (Calls.spliced_nil ?_)
    refine wpAny_evalAll_cons (wpAny_bind (m := eval (.Name (sN "since") (PS 823 50 823 55)) _) (ok.name (hR.toks _) l2 fun v3 hv3 => wpAny_bind (wpAny_standAt (wpAny_pure ?_))))
    refine wpAny_evalAll_cons (wpAny_bind (m := eval (.Name (sN "asked") (PS 823 61 823 66)) _) (ok.name (hR.toks _) l4 fun v4 hv4 => wpAny_bind (wpAny_standAt (wpAny_pure (wpAny_evalAll_nil ⟨?_, ?_⟩)))))
    · obtain ⟨_, m, own, F, _⟩ := hR
      exact Bg.X.keeps F.keep
    obtain ⟨t3, rfl⟩ := hv3
    cases hv4
    have hR3 := hR.toks (s.toks + 1 + 1 + 1 + 1 + 1)
    obtain ⟨la, pl⟩ := fo.lamAt fa hR3
    refine wpAny_call (bl_c (j := j) (lo := lo) Bs (hR3.stkG fa rfl (by kernel_rfl) sk hL0 hfp) (by show A.depth + 1 < 790; omega) la K pl rfl hlo mono' fun v s' r hv q1 q2 q3 q4 hs hk => ?_)
    refine ⟨.int r, _, _, hv, hR3.keptG fa rfl hk hs, fun s'' hR4 => wpAny_execs_nil (h r s'' q1 q2 q3 q4 hR4)⟩
  · refine wpAny_execs_cons (xasgN ok rfl (by kernel_rfl) (wpAny_Call_ofName (ok.gname hR2 (fv := .ref 48) (by kernel_rfl) ?_)))
    refine callWith_KW (K := KK w) Bg.X (by kernel_rfl) rfl (Calls.spliced_cons (ok.name hR2 l3 fun v1 hv1 => Calls.spliced_cons ?_))
    cases hv1
    refine ok.name hR2 l1 fun v2 hv2 => ?_
    obtain ⟨t2, rfl⟩ := hv2
    refine Calls.spliced_nil ?_
    refine wpAny_evalAll_cons (wpAny_bind (m := eval (.Name (sN "since") (PS 825 47 825 52)) _) (ok.name hR2 l2 fun v3 hv3 => wpAny_bind (wpAny_standAt (wpAny_pure ?_))))
    refine wpAny_evalAll_cons (wpAny_bind (m := eval (.Name (sN "asked") (PS 825 58 825 63)) _) (ok.name hR2 l4 fun v4 hv4 => wpAny_bind (wpAny_standAt (wpAny_pure (wpAny_evalAll_nil ⟨?_, ?_⟩)))))
    · obtain ⟨_, m, own, F, _⟩ := hR
      exact Bg.X.keeps F.keep
    obtain ⟨t3, rfl⟩ := hv3
    cases hv4
    obtain ⟨la, pl⟩ := fo.lamAt fa hR2
    refine wpAny_call (br_c (j := j) (lo := lo) Bs (hR2.stkG fa rfl (by kernel_rfl) sk hL0 hfp) (by show A.depth + 1 < 790; omega) la K pl rfl hlo mono' fun v s' r hv q1 q2 q3 q4 hs hk => ?_)
    refine ⟨.int r, _, _, hv, hR2.keptG fa rfl hk hs, fun s'' hR4 => wpAny_execs_nil (h r s'' q1 q2 q3 q4 hR4)⟩
end
end Mine
end -- H19
section -- H20
set_option maxRecDepth 100000
set_option maxHeartbeats 4000000
namespace Mine
section
variable {w : World} {mg mb : Str → Option Value} {b₀ : Heap} {A : Around} {s : Shared} {R : Result → Shared → Prop} {l : List Nat} {t : Value} {outer : List Env} {kf : Nat → Nat}
theorem found_c {n : Nat} {u : Tok} (Bs : Base w mg mb b₀) (sk : Stk A outer b₀ s.heap) (hroom : A.depth < 770) (ht : Sim t (.str l)) (h0 : b₀.get? 773 = none) (hf : 773 ∉ frA outer) (hT : s.heap.get? 773 = some (tabObj #[])) (hbm : b₀.BuiltinsAt mg 773) (hgP : mainGlobals ≠ 773)
    (K : KeyOk l kf) (mono : ∀ a b, a ≤ b → b ≤ l.length → kf a ≤ kf b) (hn : n ≤ 5000)
    (post : ∀ S s' (rs : List Nat) vs c, rs.length = n → (∀ j (h : j < rs.length), FoundAt kf l.length j rs[j]) → SameRest s s' → KeptF outer [773] s.heap s'.heap → (∃ ps, s'.heap.get? 773 = some (tabObj ps)) → s.heap.get? S = none → s'.heap.get? S = some (lstObj vs c) → Sims vs (rs.map fun (r : Nat) => MV.int (r : Int)) → R (.ok (.ret (.ref S))) s') :
    codeAny (model PG w) A (.call (.ref 778) ⟨[t, .int n u], []⟩) R s := by
  have hrl : recursionLimit = 1000 := rfl
  refine found_enter Bs sk (by omega) ht h0 hf hT fun L s₁ frs oc tt fa hL hL0 Bg hdc hR => ?_
  have ok : ∀ E, FaceOk (foFace w) PG w (A.deeper (foEnv L)) (foEnv L) E (RFo s [773] frs L) := fun E => faceX Bg (by kernel_rfl) (by kernel_rfl) (fun _ _ _ _ h => h) (fun _ h => by cases h)
  have hbg : (hideAll s.heap ([773] ++ frs.map (·.1))).BuiltinsAt mg 773 := BuiltinsAt_keeps hbm fun b o e => hideAll_get _ (sk.st b o e) fun q => by
    rcases List.mem_append.mp q with q | q
    · rw [List.mem_singleton.mp q, h0] at e; cases e
    · obtain ⟨p, hp, rfl⟩ := List.mem_map.mp q
      rw [(fa.at_ p hp).2.1] at e; cases e
  have hfp : ∀ a ∈ [773], b₀.get? a = none := fun a ha => by rw [List.mem_singleton.mp ha]; exact h0
  have hc773 : ∀ {ob : Obj}, s.heap.get? 773 = some ob → L + 1 ≠ 773 := fun {ob} _ q => by
    obtain ⟨_, m, own, F, N, _⟩ := id hR
    have := F.above
    rw [hideAll_size] at this
    have h2 := Heap.lt_size hT
    rw [← q] at h2
    exact Nat.lt_irrefl _ (Nat.lt_of_lt_of_le (Nat.lt_of_succ_lt h2) this)
  show wpAny _ _ (execs ((bodyOf fFound).drop 0) _) _ _ _
  refine st_exec _ (by kernel_rfl) fo0 (fo_places (l := l) (n := n) sk.hd (ok _) K.len hdc hR fun P s₂ pvs pc hpv hR₂ => ?_)
  have hP773 : P ≠ 773 := fun q => by
    have a := hR₂.here (.head _)
    have b := hR₂.here (.tail _ (.head _))
    dsimp only at a b
    rw [q, b] at a; cases a
  refine st_exec _ (by kernel_rfl) fo1 (fo_lambda (rest := [(P, lstObj pvs pc), (L + 1, oc)]) Bg hbg hgP (ok _) (fun p hp => ?_) (hR₂.weak fun p hp => ?_) fun lam c' occ vs tq pm ctv tb s₃ htb hd1 hd2 hR₃ => ?_)
  · simp only [List.mem_cons, List.not_mem_nil, or_false] at hp
    rcases hp with rfl | rfl
    · exact hP773
    · exact hc773 hT
  · simp only [List.mem_cons, List.not_mem_nil, or_false] at hp ⊢
    rcases hp with rfl | rfl | rfl
    · exact .inr (.inl rfl)
    · exact .inl rfl
    · exact .inr (.inr rfl)
  refine st_exec _ (by kernel_rfl) fo2 (xasgN (ok _) rfl (by kernel_rfl) (nil_list fun Fd s₄ hr₄ hk₄ hF0 hFd => ?_))
  let rest : Objs := [(lam, lamObj (L + 1) pm c' ctv), (c', occ), (773, tb), (P, lstObj pvs pc), (L + 1, oc)]
  have fo : FoRest l L lam c' P rest := ⟨⟨pm, ctv, .head _⟩, ⟨occ, vs, tq, .tail _ (.head _), hd1, hd2⟩, ⟨oc, tt, .tail _ (.tail _ (.tail _ (.tail _ (.head _)))), hdc⟩, ⟨pvs, pc, .tail _ (.tail _ (.tail _ (.head _))), hpv⟩⟩
  have hrF : ∀ p ∈ rest, p.1 ≠ Fd := fun p hp q => by
    have := hR₃.here hp
    rw [q, hF0] at this; cases this
  have hR₄ := hR₃.growFG hk₄ hr₄ [(Fd, lstObj [] 0)] (fun p hp => by rw [List.mem_singleton.mp hp]; exact ⟨hF0, hFd⟩)
  refine ⟨.val (.ref Fd), _, _, rfl, hR₄, fun s₅ hR₅ => ?_⟩
  let LC : Nat → Loc := fun lo => [(sN "size", .int n), (sN "places", .val (.ref P)), (sN "asked", .val (.ref lam)), (sN "found", .val (.ref Fd)), (sN "since", .int lo)]
  refine xseg (ok _) 20 (LC 0) ((Fd, lstObj [] 0) :: rest) [] 1 (by kernel_rfl) (fun _ h => nomatch h) hR₅ fun s₆ hR₆ => ?_
  show wpAny _ _ (execs ((bodyOf fFound).drop 4) _) _ _ _
  refine st_exec _ (by kernel_rfl) fo4 (for_range (n := n) sk.hd (fun _ => rfl) (fun I i s' => ∃ (rs : List Nat) (lo : Nat) (fvs : List Value) (fc : Nat), i ≤ n ∧ rs.length = i ∧ (∀ j (h : j < rs.length), FoundAt kf l.length j rs[j]) ∧ lo ≤ l.length + 1 ∧ (∀ q, q < lo → kf q ≤ i) ∧ Sims fvs (rs.map fun (r : Nat) => MV.int (r : Int)) ∧ (∀ p ∈ rest, p.1 ≠ I) ∧ Fd ≠ I ∧
    RFo s [773] frs L (LC lo) ((I, riObj i (n - i) 1) :: (Fd, lstObj fvs fc) :: rest) s') ?_ ?_ ?_ ?_)
  · refine wp_callG (ok _) 20 (fv := .type "range") (mvs := [.int n]) (x' := (Fd, lstObj [] 0) :: rest) (o := []) (by kernel_rfl) (by kernel_rfl) (fun _ h => nomatch h) hR₆ fun vs s₇ hv hR₇ => ?_
    cases hv with | cons a b =>
    cases b
    obtain ⟨tv, rfl⟩ := a
    refine call_range_1 ⟨_, _, _, _, rfl, IsRange.new _ _ _ _ _ _ _, by omega, fun I s₈ hr₈ hk₈ hI0 hI => ?_⟩
    have I7 : s₇.heap.get? I = none := by
      cases q : s₇.heap.get? I with
      | none => rfl
      | some o => rw [Heap.get?_push_of_some _ q] at hI0; cases hI0
    have hR₈ := hR₇.growFG (s' := s₈) (fun b o e => hk₈ b o (Heap.get?_push_of_some _ e)) ⟨hr₈.gens, hr₈.drawn, hr₈.os⟩ [(I, riObj 0 n 1)] (fun p hp => by rw [List.mem_singleton.mp hp]; exact ⟨I7, hI⟩)
    refine ⟨[], 0, [], 0, Nat.zero_le _, rfl, (fun _ h => nomatch h), Nat.zero_le _, (fun _ h => nomatch h), .nil, fun p hp q => ?_, fun q => ?_, ?_⟩
    · have := hR₇.here (.tail _ hp)
      rw [q, I7] at this; cases this
    · have := hR₇.here (.head _)
      dsimp only at this
      rw [q, I7] at this; cases this
    · have e0 : riObj ((0 : Nat) : Int) ((n : Int) - ((0 : Nat) : Int)) 1 = riObj 0 n 1 := by simp
      rw [e0]; exact hR₈
  · rintro I i s' ⟨rs, lo, fvs, fc, h1, h2, h3, h4, h5, h6, h7, h8, hR'⟩
    exact hR'.here (.head _)
  · rintro I s' h' ⟨rs, lo, fvs, fc, h1, h2, h3, h4, h5, h6, h7, h8, hR'⟩ hx
    have hR2 := hR'.updF (a := I) (e' := (Fd, lstObj fvs fc) :: rest) (tk := s'.toks) ⟨_, .head _⟩ hx (fun p hp => .inl ⟨.tail _ hp, by
      rcases List.mem_cons.mp hp with rfl | hp
      · exact h8
      · exact h7 p hp⟩)
    rw [fo5]
    refine wpAny_execs_cons (wpAny_Return_some ((ok _).name hR2 (v := .val (.ref Fd)) (by kernel_rfl) fun v hv => ?_))
    cases hv
    obtain ⟨o1, o2⟩ := hR2.outKG fa
    refine post Fd _ rs fvs fc h2 h3 o1 o2 (by obtain ⟨ps, rfl⟩ := htb; exact ⟨ps, hR2.here (p := (773, tabObj ps)) (.tail _ (.tail _ (.tail _ (.head _))))⟩) ?_ (hR2.here (.head _)) h6
    cases q : s.heap.get? Fd with
    | none => rfl
    | some o =>
      obtain ⟨_, m, own, F, N, lr, f', rfl, up, off⟩ := hR2
      have Nf := N _ (.head _)
      by_cases hb : Fd ∈ [773] ++ frs.map (·.1)
      · rcases List.mem_append.mp hb with hb | hb
        · exact absurd (List.mem_singleton.mp hb).symm (hrF _ (.tail _ (.tail _ (.head _))))
        · exact absurd hb (off _ (.head _))
      · have := hideAll_get _ q hb
        rw [Nf.2.2] at this; cases this
  · rintro I i s' h' tk hlt ⟨rs, lo, fvs, fc, h1, h2, h3, h4, h5, h6, h7, h8, hR'⟩ hI' hsb
    have hR1 := hR'.updF (a := I) (e' := (I, riObj (i + 1 : Nat) (n - (i + 1 : Nat)) 1) :: (Fd, lstObj fvs fc) :: rest) (h' := h') (tk := tk + 1) ⟨_, .head _⟩ (fun b o hb e => (hsb.2 b hb).trans e) (fun p hp => by
      rcases List.mem_cons.mp hp with rfl | hp
      · exact .inr (.inl ⟨rfl, hI'⟩)
      · exact .inl ⟨.tail _ hp, by
          rcases List.mem_cons.mp hp with rfl | hp
          · exact h8
          · exact h7 p hp⟩)
    refine PyProof.Rows.assign_Name ((ok _).store (y := sN "j") (mv := .int i) hR1 (by kernel_rfl) ⟨_, rfl⟩ fun s₂ hR2 => ?_)
    refine wpAny_execs_cons (fo_if (j := i) (lo := lo) Bs sk fa hL0 hfp (by omega) Bg (ok _) K mono (fo.sub fun p hp => .tail _ (.tail _ hp)) h4 (by kernel_rfl) (by kernel_rfl) (by kernel_rfl) (by kernel_rfl) hR2 fun r s₃ q1 q2 q3 q4 hR3 => ?_)
    have hR3 : RFo s [773] frs L (LC r ++ [(sN "j", .int i)]) ((I, riObj (i + 1 : Nat) (n - (i + 1 : Nat)) 1) :: (Fd, lstObj fvs fc) :: rest) s₃ := hR3
    have hfl : fvs.length ≤ 1000000 := by rw [h6.len, List.length_map]; omega
    refine wpAny_execs_cons (st_append (vs := fvs) (c := fc) rfl rfl rfl (fun Q' hq => (ok _).name hR3 (v := .val (.ref Fd)) (by kernel_rfl) fun v hv => by cases hv; exact hq) (hR3.here (.tail _ (.head _))) hfl ((ok _).name hR3 (v := .int r) (by kernel_rfl) fun v hv => ⟨hR3.here (.tail _ (.head _)), fun h'' c'' hs'' hg'' => ?_⟩))
    refine wpAny_execs_nil ⟨.inl rfl, rs ++ [r], r, fvs ++ [v], c'', by omega, by simp [h2], ?_, q2, ?_, ?_, h7, h8, ?_⟩
    · have F : FoundAt kf l.length i r := ⟨q2, fun q hq => by
        by_cases hql : q < lo
        · exact h5 q hql
        · exact q3 q (by omega) hq, q4⟩
      intro j hj
      by_cases hji : j < rs.length
      · rw [List.getElem_append_left hji]; exact h3 j hji
      · have : j = rs.length := by simp at hj; omega
        subst this
        simp only [List.getElem_concat_length]
        rw [h2]; exact F
    · intro q hq
      by_cases hql : q < lo
      · have := h5 q hql; omega
      · have := q3 q (by omega) hq; omega
    · rw [List.map_append]; exact h6.app (.cons hv .nil)
    · have hR4 := hR3.updF (a := Fd) (e' := (I, riObj (i + 1 : Nat) (n - (i + 1 : Nat)) 1) :: (Fd, lstObj (fvs ++ [v]) c'') :: rest) (h' := h'') (tk := s₃.toks) ⟨_, .tail _ (.head _)⟩ (fun b o hb e => (hs''.2 b hb).trans e) (fun p hp => by
        rcases List.mem_cons.mp hp with rfl | hp
        · exact .inl ⟨.head _, Ne.symm h8⟩
        rcases List.mem_cons.mp hp with rfl | hp
        · exact .inr (.inl ⟨rfl, hg''⟩)
        · exact .inl ⟨.tail _ (.tail _ hp), hrF p hp⟩)
      exact hR4.forget fun y v h => lookup_take 5 (LC r ++ [(sN "j", .int i)]) h
end
end Mine
end -- H20
section -- H21
set_option maxRecDepth 100000
set_option maxHeartbeats 4000000
namespace Mine
theorem flyW {base h : Heap} {l : List Env} {e : Addr} {cls : Value} (x : Heap.Flying base l e cls h) : ∃ a0, Heap.FlyingW base l e cls a0 h := by
  obtain ⟨f1, f2, f3, oe, vs, T, oT, ts, h1, h2, h3, h4, r⟩ := x
  have hs : 1 < vs.size := (Array.getElem?_eq_some_iff.mp h4).1
  exact ⟨vs[0], f1, f2, f3, oe, vs, T, oT, ts, h1, ⟨h2, Array.getElem?_eq_getElem (by omega)⟩, h3, h4, r⟩
noncomputable def fRef : FuncData := fdAt 790
theorem ff_ref (w : World) : FnFacts w 790 fRef := ⟨by kernel_rfl, by kernel_rfl⟩
noncomputable abbrev refCall : Stmt := .Expr (.Call (.Name (sN "split") (PS 833 8 833 13)) [.Name (sN "text") (PS 833 14 833 18)] [] (PS 833 8 833 19)) (PS 833 8 833 19)
noncomputable abbrev refTry : Stmt := .Try [refCall] [.ExceptHandler (some (.Name (sN "ValueError") (PS 834 11 834 21))) none [.Return (some (.Constant (.bool true) 0 (PS 835 15 835 19))) (PS 835 8 835 19)] (PS 834 4 835 19)] [] [] (PS 832 4 835 19)
theorem ref0 : stAt (bodyOf fRef) 0 = refTry := by kernel_rfl
section
variable {w : World} {mg mb : Str → Option Value} {b₀ : Heap} {A : Around} {s : Shared} {R : Result → Shared → Prop} {l : List Nat} {t : Value} {outer : List Env}
theorem refused_c {b : Bool} (Bs : Base w mg mb b₀) (sk : Stk A outer b₀ s.heap) (hroom : A.depth < 800) (ht : Sim t (.str l)) (hlen : l.length ≤ 100000) (hal : ∀ c ∈ l, c ∈ alpha) (hb : if b then TokB l .sp else ∃ ws, TokS l .sp ws)
    (post : ∀ s', SameRest s s' → KeptF outer [] s.heap s'.heap → R (.ok (.ret (.bool b))) s') : codeAny (model PG w) A (.call (.ref 790) ⟨[t], []⟩) R s := by
  have hrl : recursionLimit = 1000 := rfl
  refine enterK _ [sN "text"] (vs := [t]) (mvs := [.str l]) [] Bs sk (ff_ref w) (by omega) (.cons ht .nil) (by kernel_rfl) (by kernel_rfl) (by kernel_rfl) fun L s₁ frs fa ok hR hL hL0 hk Bg => ?_
  show wpAny _ _ (execs ((bodyOf fRef).drop 0) _) _ _ _
  refine st_exec _ (by kernel_rfl) ref0 (wpAny_Try_except (wpAny_execs_cons (wpAny_Expr_any (wp_callG (ok _) 10 (fv := .ref 752) (mvs := [.str l]) (x' := []) (o := []) (by kernel_rfl) (by kernel_rfl) (fun _ h => nomatch h) hR fun vs s₂ hv hR₂ => ?_))))
  cases hv with | cons a q =>
  cases q
  have sk₂ := hR₂.stk fa rfl hk sk hL0
  cases b with
  | false =>
    obtain ⟨ws, hw⟩ := hb
    refine wpAny_call (split_ok Bs sk₂ (by show A.depth + 1 < 820; omega) a hlen hal hw fun S s₃ us c hs hk₃ hS0 hus hS => ?_)
    have hR₃ := hR₂.kept fa rfl hk₃ hs
    refine wpAny_execs_nil (wpAny_execs_nil ?_)
    refine xrun (ok _) 10 (.ret (.bool false)) [(sN "text", .str l)] [] [] (by kernel_rfl) (fun _ h => nomatch h) hR₃ fun s₄ hR₄ fl hfl => ?_
    cases fl <;> first | exact hfl.elim | skip
    cases hfl
    obtain ⟨o1, o2⟩ := hR₄.outK fa
    exact post _ o1 o2
  | true =>
    let bs : Heap := hideAll s₂.heap ([] ++ frA (envAt fRef L 790 :: outer))
    have skb : Stk (A.deeper (envAt fRef L 790)) (envAt fRef L 790 :: outer) bs s₂.heap := ⟨sk₂.hd, sk₂.fr, fun b o e => of_hideAll _ e, frames_base (fun a ha => hideAll_none _ ha) sk₂.ff⟩
    refine wpAny_call (split_bad (bs := bs) Bs sk₂.st skb (by show A.depth + 1 < 820; omega) a hlen hal hb fun e s₃ hs fx => ?_)
    obtain ⟨a0, fw⟩ := flyW fx.1
    refine wpAny_looks_onW sk₂.fr rfl fw fun h₄ held₄ sm₄ => wpAny_landsW held₄ fun h₅ fl₅ sm₅ => ?_
    have up : ∀ {h' : Heap}, s₃.heap.UpToSlots h' → s₂.heap.UpToSlots h' := fun {h'} k b o e nf => by
      obtain ⟨sl, q⟩ := fx.2 b o e (fun z => nomatch z) nf
      obtain ⟨sl', q'⟩ := k b { o with slots := sl } q nf
      exact ⟨sl', q'⟩
    have kf : ∀ {h' : Heap}, bs.StaysIn h' → s₃.heap.UpToSlots h' → KeptF (envAt fRef L 790 :: outer) [] s₂.heap h' := fun {h'} k1 k2 => ⟨fun b o e _ q => k1 b o (hideAll_get _ e q), fun b o e _ nf => up k2 b o e nf⟩
    have hR₅ := hR₂.kept (s' := { s₃ with heap := h₅ }) fa rfl (kf fl₅.1 (sm₄.trans sm₅)) (hs.put _ _)
    obtain ⟨ob, hob, hobc⟩ : ∃ ob, h₅.get? e = some ob ∧ ob.cls = .type "ValueError" := by
      obtain ⟨_, _, _, oe, vs, T, oT, ts, q1, ⟨q2, _⟩, _⟩ := fl₅
      exact ⟨oe, q1, q2⟩
    obtain ⟨_, m₅, own₅, F₅, _⟩ := id hR₅
    refine wpAny_handleBy_builtin (X := "ValueError") (T := "ValueError") (b := true) (by rw [isSubtype_type]; kernel_rfl) (by rw [isSubtype_type]; kernel_rfl) (by rw [isSubtype_type]; kernel_rfl)
      (gF_nameX (cells := []) (s := { s₃ with heap := h₅ }) Bg F₅ hk (f := sN "ValueError") (v := .type "ValueError") (by kernel_rfl) ⟨rfl, ⟨ob, hob, hobc⟩, ?_⟩)
    rw [if_pos rfl]
    refine lands_againW (s := { s₃ with heap := h₅ }) fl₅ fun h₆ fl₆ sm₆ => ?_
    refine wpAny_passesOwnAt PassesOwnAt.leaving (wpAny_execs_cons (wpAny_Return_some (wpAny_Constant_bool ?_)))
    have hR₆ := hR₂.kept (s' := { s₃ with heap := h₆ }) fa rfl (kf fl₆.1 ((sm₄.trans sm₅).trans sm₆)) (hs.put _ _)
    obtain ⟨o1, o2⟩ := hR₆.outK fa
    exact post _ o1 o2
end
end Mine
end -- H21
section -- H22
set_option maxRecDepth 100000
set_option maxHeartbeats 4000000
namespace Mine
section
variable {w : World} {mg mb : Str → Option Value} {g : Heap} {A : Around} {E : Value → Shared → Prop} {s s₀ : Shared} {L : Addr} {m : Str → Option Value} {env : Env} {f : Str} {v : Value} {asg : List Str}
theorem gF_nameE {pos : Pos} {Q : Value → Shared → Prop} (hg : env.globals = mainGlobals) (hb : env.builtins = builtinsNs) (Bs : Base w mg mb g) (F : Fr g L s.heap m) (hk : env.scope.kind = .function) (h : gF w env.scope f = some v) (q : Q v s) : wpAny (model PG w) A (eval (.Name f pos) env) Q E s := by
  unfold gF at h
  split at h
  · rename_i hc
    simp only [Bool.and_eq_true, beq_iff_eq, Bool.not_eq_true'] at hc
    obtain ⟨⟨h1, h2⟩, h3⟩ := hc
    split at h
    · rename_i b hb'
      split at h
      · cases h
        exact Calls.Name_function_global hk h1 (Calls.loadGlobal_global (env := env) (by rw [hg]; exact Bs.g.keeps F.keep) (mg_of Bs.X Bs.g hb') q) h2
      · cases h
    · rename_i hb'
      have hn : f ≠ "__name__" := fun e => by rw [e] at h3; simp at h3
      split at h
      · rename_i t ht
        cases h
        exact Calls.Name_function_global hk h1 (Calls.loadGlobal_builtin (env := env) (by rw [hg]; exact Bs.g.keeps F.keep) (mg_none_of Bs.X Bs.g hb') (by rw [hb]; exact Bs.b.keeps F.keep) ((Bs.bb f hn).trans ht) q) h2
      · rename_i t ht
        cases h
        exact Calls.Name_function_global hk h1 (Calls.loadGlobal_builtin (env := env) (by rw [hg]; exact Bs.g.keeps F.keep) (mg_none_of Bs.X Bs.g hb') (by rw [hb]; exact Bs.b.keeps F.keep) ((Bs.bb f hn).trans ht) q) h2
      · cases h
    · cases h
  · cases h
theorem faceE {ε : Type} {Led : ε → (Str → Option Value) → Objs → Prop} {hookE : Expr → Loc → ε → Option (MV × ε)} (hl : env.locals = L) (hg : env.globals = mainGlobals) (hb : env.builtins = builtinsNs) (hk : env.scope.kind = .function) (Bs : Base w mg mb g) (hasg : asgOk env.scope asg = true) (hled : ∀ x m m' own, Led x m own → Led x m' own)
    (hE : ∀ {loc x s e v x'} {Q : Value → Shared → Prop}, RF s₀ g env L Led loc x s → hookE e loc x = some (v, x') → (∀ v' s', Sim v' v → RF s₀ g env L Led loc x' s' → Q v' s') → wpAny (model PG w) A (eval e env) Q E s) :
    FaceOk (plainFace w env.scope asg hookE noS noC) PG w A env E (RF s₀ g env L Led) where
  name := fun hR hl' hQ => by
    obtain ⟨h1, m, own, F, N, l, d⟩ := hR
    obtain ⟨v, hv, hs, hkd, hd⟩ := l _ _ hl'
    exact wpAny_Name (wpAny_loadName_local hk hkd (by rw [hl]; exact F.ns) hv (hQ _ hs)) hd
  load := fun hR hl' hQ => by
    obtain ⟨h1, m, own, F, N, l, d⟩ := hR
    obtain ⟨v, hv, hs, hkd, hd⟩ := l _ _ hl'
    exact wpAny_loadName_local hk hkd (by rw [hl]; exact F.ns) hv (hQ _ hs)
  store := fun hR ha hs hQ => by
    obtain ⟨h1, m, own, F, N, l, d⟩ := hR
    obtain ⟨hkd, hd, _⟩ := asgOk_mem hasg ha
    exact wpAny_storeName_local hkd (by rw [hl]; exact F.ns) (fun h' hn hs' => hQ _ ⟨h1.put _ _, _, own, F.set (by rw [hl] at hn; exact hn) (by rw [hl] at hs'; exact hs'), N.set (by rw [hl] at hs'; exact hs'), l.store hs hkd hd, hled _ _ _ _ d⟩) (by rw [hk]; rfl)
  toks := fun hR => hR.toks _
  push := fun hR hf => hR.push hf
  sname := fun _ h => by cases h
  get := fun _ h => by cases h
  set := fun _ h => by cases h
  hookE := hE
  hookS := fun _ h => by cases h
  hookT := fun _ h => by cases h
  gname := fun hR hf q => by
    obtain ⟨_, m, own, F, _⟩ := hR
    exact gF_nameE hg hb Bs F hk hf q
  keeper := fun hR hf => by
    obtain ⟨_, m, own, F, _⟩ := hR
    exact gF_keeper (Bs.keeps F.keep).X hf
  call := fun _ _ h => by cases h
end
/-- an iterator that hands on so many items -/
structure Itr (w : World) (A : Around) (I : Addr) (n : Nat) (io : Nat → Obj → Prop) (mv : Nat → MV) (Src : Heap → Prop) : Prop where
  next : ∀ i (s : Shared) o (Q : Option Value → Shared → Prop) (E : Value → Shared → Prop), i < n → s.heap.get? I = some o → io i o → Src s.heap → (∀ v h' tk o', Sim v (mv i) → h'.get? I = some o' → io (i + 1) o' → Heap.SameBut I s.heap h' → Q (some v) { s with heap := h', toks := tk }) → wpAny (model PG w) A (pyNext (.ref I)) Q E s
  stop : ∀ (s : Shared) o (Q : Option Value → Shared → Prop) (E : Value → Shared → Prop), s.heap.get? I = some o → io n o → Src s.heap → (∀ h', (∀ b o, b ≠ I → s.heap.get? b = some o → h'.get? b = some o) → Q none { s with heap := h' }) → wpAny (model PG w) A (pyNext (.ref I)) Q E s
  self : ∀ (s : Shared) o i (Q : Value → Shared → Prop) (E : Value → Shared → Prop), s.heap.get? I = some o → io i o → Q (.ref I) s → wpAny (model PG w) A (pyIter (.ref I)) Q E s
theorem itr_range {w : World} {A : Around} {I : Addr} {n : Nat} (hh : A.handled = none) : Itr w A I n (fun i o => o = riObj i (n - i) 1) (fun i => .int i) (fun _ => True) where
  next := fun i s o Q E hi ho hio _ h => by
    subst hio
    refine wpAny_pyNext_range_item ho (by omega) fun h₁ hit hs => ?_
    have e2 : (n : Int) - (i : Int) - 1 = n - (i + 1 : Nat) := by omega
    rw [e2] at hit
    exact h _ _ _ _ ⟨_, rfl⟩ hit rfl hs
  stop := fun s o Q E ho hio _ h => by
    subst hio
    exact wpAny_pyNext_range_end hh ho (by omega) fun h₁ he => h h₁ fun b o hb e => he b o hb e
  self := fun s o i Q E ho hio h => by
    subst hio
    exact wpAny_pyIter_rangeiter ho h
theorem itr_list {w : World} {A : Around} {I a : Addr} {vs : List Value} {c : Nat} {mvs : List MV} (hh : A.handled = none) (hs : Sims vs mvs) : Itr w A I mvs.length (fun i o => o.cls = .type "list_iterator" ∧ o.data = .fields #[.ref a, .int i 0]) (fun i => (mvs[i]?).getD .none) (fun h => h.get? a = some (lstObj vs c)) where
  next := fun i s o Q E hi ho hio hsrc h => by
    obtain ⟨v, hv, hsv⟩ := hs.get (k := i) (List.getElem?_eq_getElem hi)
    refine wpAny_pyNext_list_item (x := v) ⟨o, ho, hio⟩ (isList_lst hsrc) (by simpa using hv) fun h₁ hit hs₁ => ?_
    obtain ⟨o', ho', hio'⟩ := hit
    exact h v h₁ s.toks o' (by simpa [List.getElem?_eq_getElem hi] using hsv) ho' hio' hs₁
  stop := fun s o Q E ho hio hsrc h => wpAny_pyNext_list_end hh ⟨o, ho, hio⟩ (isList_lst hsrc) (by simp [hs.len]) fun h₁ he => h h₁ fun b o hb e => he b o hb e
  self := fun s o i Q E ho hio h => wpAny_pyIter_listiter ⟨o, ho, hio⟩ h
end Mine
end -- H22
section -- H23
set_option maxRecDepth 100000
set_option maxHeartbeats 4000000
namespace Mine
section
variable {w : World} {mg mb : Str → Option Value} {b₀ : Heap} {A : Around} {s : Shared} {env : Env} {outer : List Env}
noncomputable abbrev RFc (s₁ : Shared) (frs : Objs) (scope : Scope) (cl : List (Str × Addr)) (env : Env) (C : Addr) (loc : Loc) (e : Objs) (s : Shared) : Prop := RF s₁ (hideAll s₁.heap ([] ++ frs.map (·.1))) (compEnvC scope cl C env) C (LedF frs) loc e s
/-- a list comprehension over an iterator; what an item makes is yours to say -/
theorem comp_c {E : Value → Shared → Prop} {elt iter : Expr} {x : Str} {px pos : Pos} {scope : Scope} {cl : List (Str × Addr)} {Q : Value → Shared → Prop} (n : Nat) (io : Addr → Nat → Obj → Prop) (mv : Nat → MV) (Src : Heap → Prop) (Built : Nat → List Value → Objs → Prop)
    (hclos : closureFor scope env = pure cl) (hcell : ∀ y ∈ scope.names, y.2 ≠ .cell) (hkind : scope.kind = .function) (hnames : ∀ y ∈ scope.names, y.2 = .local → scope.names.lookup y.1 = some .local) (hx : scope.names.lookup x = some .local) (hdb : (x == ("__debug__" : Str)) = false) (hxs : (x == selfN) = false)
    (hg : env.globals = mainGlobals) (hbn : env.builtins = builtinsNs) (hn : n ≤ 100000) (hit : ∀ I, Itr w A I n (io I) mv Src) (hb0 : Built 0 [] [])
    (h : wpAny (model PG w) A (eval iter env) (fun xv s₁ => ∃ frs : Objs,
      FrsAt frs outer b₀ s₁.heap ∧ Base w mg mb (hideAll s₁.heap ([] ++ frs.map (·.1))) ∧ (∀ h, (hideAll s₁.heap ([] ++ frs.map (·.1))).StaysIn h → Src h) ∧
      (∀ Q' : Value → Shared → Prop, (∀ I s₂ o, SameRest s₁ s₂ → s₁.heap.StaysIn s₂.heap → s₁.heap.get? I = none → s₂.heap.get? I = some o → io I 0 o → s₁.heap.objs.size ≤ s₂.heap.objs.size → Q' (.ref I) s₂) → wpAny (model PG w) A (pyIter xv) Q' E s₁) ∧
      (∀ C i vs bl e s (E' : Value → Shared → Prop) (Q' : Value → Shared → Prop), i < n → Built i vs bl → s₁.heap.get? C = none → RFc s₁ frs scope cl env C [(x, mv i)] e s → (∀ p ∈ bl, p ∈ e) →
        (∀ y s' nw, Built (i + 1) (vs ++ [y]) (nw ++ bl) → (∀ p ∈ nw, s.heap.get? p.1 = none) → RFc s₁ frs scope cl env C [(x, mv i)] (nw ++ e) s' → Q' y s') → wpAny (model PG w) A (eval elt (compEnvC scope cl C env)) Q' E' s) ∧
      (∀ D s' vs c bl, Built n vs bl → SameRest s₁ s' → KeptF outer [] s₁.heap s'.heap → s₁.heap.get? D = none → s'.heap.get? D = some (lstObj vs c) → (∀ p ∈ bl, s'.heap.get? p.1 = some p.2 ∧ s₁.heap.get? p.1 = none) → Q (.ref D) s')) E s)
    (hs : ∀ x, foldedSetIterable iter env x = pure x := by intro _; rfl) :
    wpAny (model PG w) A (eval (.ListComp elt [⟨.Name x px, iter, [], 0⟩] scope pos) env) Q E s := by
  rw [eval_ListComp]
  refine wpAny_comprehension_free (use := none) rfl hs hclos hkind hnames (wpAny_mono h (fun xv s₁ h₁ => ?_) fun _ _ e => e)
  obtain ⟨frs, fa, Bg, hsrc, hiter, helt, hend⟩ := h₁
  refine hiter _ fun I s₂ o₀ hr₂ hk₂ hI0 hI hio hsz => ?_
  refine wpAny_newObj_type (wpAny_newFunctionEnv hcell (by intro y hy; simp at hy) (fun h₁ hns₁ hsb₁ => ?_) hkind)
  dsimp only at hns₁ hsb₁ ⊢
  generalize hH2 : s₂.heap.push { cls := .type "list", dict := none, data := .seq ([] : List Value).toArray } = H2 at hns₁ hsb₁ ⊢
  generalize hDd : s₂.heap.objs.size = D at *
  have hCs : H2.objs.size = D + 1 := by rw [← hH2, Heap.size_push, hDd]
  generalize hCd : H2.objs.size = C at *
  have hDC : (D : Nat) < C := by omega
  have old2 : ∀ b o, s₂.heap.get? b = some o → b < D := fun b o e => by rw [← hDd]; exact Heap.lt_size e
  have keep : ∀ b o, s₂.heap.get? b = some o → h₁.get? b = some o := fun b o e => hsb₁.extBut b o (Nat.ne_of_lt (Nat.lt_trans (old2 b o e) hDC)) (Heap.get?_push_of_some _ (hH2 ▸ Heap.get?_push_of_some _ e))
  have hD1 : h₁.get? D = some (lstObj [] 0) := hsb₁.extBut _ _ (Nat.ne_of_lt hDC) (Heap.get?_push_of_some _ (hH2 ▸ (Heap.get?_push_at hDd.symm rfl)))
  have n2 : ∀ b, D ≤ b → s₂.heap.get? b = none := fun b hb => Heap.get?_none_of_le (by rw [hDd]; exact hb)
  have n1 : ∀ b, s₂.heap.get? b = none → s₁.heap.get? b = none := fun b e => by
    cases q : s₁.heap.get? b with
    | none => rfl
    | some o => rw [hk₂ _ _ q] at e; cases e
  have hC1 : s₁.heap.get? C = none := n1 _ (n2 _ (Nat.le_of_lt hDC))
  have hD0 : s₁.heap.get? D = none := n1 _ (n2 _ (Nat.le_refl _))
  have hg0 : ∀ b, s₁.heap.get? b = none → (hideAll s₁.heap ([] ++ frs.map (·.1))).get? b = none := fun b e => by
    cases q : (hideAll s₁.heap ([] ++ frs.map (·.1))).get? b with
    | none => rfl
    | some o => rw [of_hideAll _ q] at e; cases e
  have hID : I ≠ D := fun q => by rw [q, n2 D (Nat.le_refl _)] at hI; cases hI
  have hIC : I ≠ C := fun q => by rw [q, n2 C (Nat.le_of_lt hDC)] at hI; cases hI
  have nfr : ∀ b, s₁.heap.get? b = none → b ∉ frs.map (·.1) := fun b e q => by
    obtain ⟨p, hp, rfl⟩ := List.mem_map.mp q
    rw [(fa.at_ p hp).1] at e; cases e
  have F1 : Fr (hideAll s₁.heap ([] ++ frs.map (·.1))) C h₁ (fun _ => none) := by
    refine ⟨hns₁, fun b o e => keep b o (hk₂ b o (of_hideAll _ e)), ?_⟩
    rw [hideAll_size]
    exact Nat.le_trans hsz (Nat.le_of_lt hDC)
  have hR0 : RFc s₁ frs scope cl env C [] ((I, o₀) :: (D, lstObj [] 0) :: []) { s₂ with heap := h₁, toks := s₂.toks + ([] : List (Str × Value)).length } := by
    refine ⟨hr₂.put _ _, _, [(I, o₀), (D, lstObj [] 0)] ++ frs, F1, fun p hp => ?_, fun y mv hy => by simp at hy, frs, rfl, UpTo.refl _, fun p hp => ?_⟩
    · rcases List.mem_append.mp hp with hp | hp
      · simp only [List.mem_cons, List.not_mem_nil, or_false] at hp
        rcases hp with rfl | rfl
        · exact ⟨keep _ _ hI, hIC, hg0 _ hI0⟩
        · exact ⟨hD1, Nat.ne_of_lt hDC, hg0 _ hD0⟩
      · exact ⟨keep _ _ (hk₂ _ _ (fa.at_ p hp).1), (fun q => by have := (fa.at_ p hp).1; rw [q, hC1] at this; cases this), hideAll_none _ (List.mem_append_right _ (List.mem_map_of_mem hp))⟩
    · simp only [List.mem_cons, List.not_mem_nil, or_false] at hp
      rcases hp with rfl | rfl
      · exact nfr _ hI0
      · exact nfr _ hD0
  have ok : ∀ E, FaceOk (plainFace w (compEnvC scope cl C env).scope [x] noE noS noC) PG w A (compEnvC scope cl C env) E (RFc s₁ frs scope cl env C) := fun E => faceE rfl hg hbn hkind Bg (by
    unfold asgOk
    simp only [List.all_cons, List.all_nil, Bool.and_true, Bool.and_eq_true, beq_iff_eq, Bool.not_eq_true']
    exact ⟨⟨lookup_relabel_local hx, hdb⟩, hxs⟩) (fun _ _ _ _ h => h) (fun _ h => by cases h)
  have loop : ∀ s₃ : Shared, s₃ = { s₂ with heap := h₁, toks := s₂.toks + ([] : List (Str × Value)).length } →
      codeAny (model PG w) A (.compLoop (.ListComp elt [⟨.Name x px, iter, [], 0⟩] scope pos) 0 (.ref I) (.ref D) (compEnvC scope cl C env)) (compPost (model PG w) A E none Q (.ref D) C) s₃ := by
    rintro s₃ rfl
    refine codeAny_compLoop_list (fun k s' => ∃ i vs c o bl, i ≤ n ∧ k = n + 1 - i ∧ vs.length = i ∧ io I i o ∧ Built i vs bl ∧ (∀ p ∈ bl, p.1 ≠ I ∧ p.1 ≠ D) ∧ RFc s₁ frs scope cl env C [] ((I, o) :: (D, lstObj vs c) :: bl) s') ?_ (n + 1) ⟨0, [], 0, o₀, [], Nat.zero_le _, rfl, rfl, hio, hb0, (fun _ h => nomatch h), hR0⟩
    rintro k s' ⟨i, vs, c, o, bl, hi, rfl, hvl, hoi, hbl, hoff, hR⟩
    have hS : Src s'.heap := by
      obtain ⟨_, m, own, F, _⟩ := hR
      exact hsrc _ F.keep
    by_cases hlt : i < n
    · refine (hit I).next i s' o _ _ hlt (hR.here (.head _)) hoi hS fun v h' tk o' hv hI' hoi' hsb => ?_
      have hR1 := hR.updF (a := I) (e' := (I, o') :: (D, lstObj vs c) :: bl) (h' := h') (tk := tk) ⟨_, .head _⟩ (fun b ob hb e => (hsb.2 b hb).trans e) (fun p hp => by
        rcases List.mem_cons.mp hp with rfl | hp
        · exact .inr (.inl ⟨rfl, hI'⟩)
        · refine .inl ⟨.tail _ hp, ?_⟩
          rcases List.mem_cons.mp hp with rfl | hp
          · exact Ne.symm hID
          · exact (hoff p hp).1)
      refine PyProof.Rows.assign_Name ((ok _).store (y := x) (mv := mv i) hR1 (by show ([x] : List Str).contains x = true; simp) hv fun s₂' hR2 => ?_)
      refine helt C i vs bl _ s₂' _ _ hlt hbl hC1 hR2 (fun p hp => .tail _ (.tail _ hp)) fun y s₃' nw hbl' hnw hR3 => ?_
      have hD3 := hR3.here (List.mem_append_right _ (.tail _ (.head _)))
      refine append_at (n := c) (its := vs.toArray) hD3 (fun h₄ hs₄ hg₄ => ?_) (by rw [sizeLine_eq]; simp; omega)
      have hnD : ∀ p ∈ nw, p.1 ≠ I ∧ p.1 ≠ D := fun p hp => by
        have := hnw p hp
        refine ⟨fun q => ?_, fun q => ?_⟩
        · rw [q, hR2.here (.head _)] at this; cases this
        · rw [q, hR2.here (.tail _ (.head _))] at this; cases this
      refine ⟨n + 1 - (i + 1), by omega, i + 1, vs ++ [y], c + 1, o', nw ++ bl, hlt, rfl, by simp [hvl], hoi', hbl', fun p hp => ?_, ?_⟩
      · rcases List.mem_append.mp hp with hp | hp
        · exact hnD p hp
        · exact hoff p hp
      · have hR4 := hR3.updF (a := D) (e' := (I, o') :: (D, lstObj (vs ++ [y]) (c + 1)) :: (nw ++ bl)) (h' := h₄) (tk := s₃'.toks) ⟨_, List.mem_append_right _ (.tail _ (.head _))⟩ (fun b ob hb e => (hs₄.2 b hb).trans e) (fun p hp => by
          rcases List.mem_cons.mp hp with rfl | hp
          · exact .inl ⟨List.mem_append_right _ (.head _), hID⟩
          rcases List.mem_cons.mp hp with rfl | hp
          · exact .inr (.inl ⟨rfl, by rw [hg₄]; simp [lstObj]⟩)
          rcases List.mem_append.mp hp with hp | hp
          · exact .inl ⟨List.mem_append_left _ hp, (hnD p hp).2⟩
          · exact .inl ⟨List.mem_append_right _ (.tail _ (.tail _ hp)), (hoff p hp).2⟩)
        exact hR4.forget fun y v h => by simp at h
    · have hin : i = n := by omega
      subst hin
      refine (hit I).stop s' o _ _ (hR.here (.head _)) hoi hS fun h' hx' => ?_
      have hR1 := hR.updF (a := I) (e' := (D, lstObj vs c) :: bl) (h' := h') (tk := s'.toks) ⟨_, .head _⟩ hx' (fun p hp => by
        refine .inl ⟨.tail _ hp, ?_⟩
        rcases List.mem_cons.mp hp with rfl | hp
        · exact Ne.symm hID
        · exact (hoff p hp).1)
      obtain ⟨o1, o2⟩ := hR1.outKG fa
      obtain ⟨_, m, own, F, N, lr, f', rfl, up, off⟩ := id hR1
      refine ⟨m, F.ns, fun h'' hs'' => ?_⟩
      have neC : ∀ b ob, s₁.heap.get? b = some ob → b ≠ C := fun b ob e q => by rw [q, hC1] at e; cases e
      have fresh : ∀ p ∈ (D, lstObj vs c) :: bl, s₁.heap.get? p.1 = none := fun p hp => by
        cases q : s₁.heap.get? p.1 with
        | none => rfl
        | some ob =>
          have := hideAll_get ([] ++ frs.map (·.1)) q (off p hp)
          rw [(N p (List.mem_append_left _ hp)).2.2] at this; cases this
      refine hend D _ vs c bl hbl ⟨o1.gens, o1.drawn, o1.os⟩ ⟨fun b ob e z q => ?_, fun b ob e z nf => ?_⟩ hD0 ?_ fun p hp => ⟨?_, fresh p (.tail _ hp)⟩
      · exact (hs''.2 b (neC b ob e)).trans (o2.old b ob e z q)
      · obtain ⟨sl, q⟩ := o2.upto b ob e z nf
        exact ⟨sl, (hs''.2 b (neC b ob e)).trans q⟩
      · exact (hs''.2 D (Nat.ne_of_lt hDC)).trans (hR1.here (.head _))
      · have P := N p (List.mem_append_left _ (.tail _ hp))
        exact (hs''.2 p.1 P.2.1).trans P.1
  exact codeAny_compStart_list (loop _ rfl) ((hit I).self _ _ 0 _ _ (keep _ _ hI) hio (loop _ rfl))
end
end Mine
end -- H23
section -- H24
set_option maxRecDepth 100000
set_option maxHeartbeats 4000000
namespace Mine
noncomputable def fTold : FuncData := fdAt 783
noncomputable abbrev fdN : Str := sN "found"
noncomputable abbrev enN : Str := sN "ends"
theorem to_here (w : World) : (KK w).lookup 783 = some ⟨.type "function", none, .func fTold, #[]⟩ := by kernel_rfl
theorem to_code (w : World) : codeIn (KK w) fTold.code fTold.qualname = true := by kernel_rfl
theorem to_binds (w : World) (t : Value) (a : Addr) : runK (KK w) 100 (bindArgs fTold ⟨[t, .ref a], []⟩) = some [(txN, t), (fdN, .ref a)] := by kernel_rfl
noncomputable abbrev toEnv (L : Addr) : Env := envX fTold.qualname fTold.scope L 783 fTold.code [(enN, L + 1 + 1 + 1), (fdN, L + 1 + 1), (txN, L + 1)]
theorem to_env (L : Addr) : newEnv fTold.scope L fTold.globals (cellsFrom (L + 1) fTold.scope.names []) (fTold.qualname ++ ".<locals>.") (some 783) fTold.code none fTold.builtins = toEnv L := by kernel_rfl
noncomputable abbrev toEx : Expr := .BinOp (.Subscript (.Name fdN (PS 829 11 829 16)) (.Slice (some (.Constant (.int 1) 0 (PS 829 17 829 18))) none none (PS 829 17 829 19)) (PS 829 11 829 20)) .Add (.List [.BinOp (.Call (.Name (sN "len") (PS 829 24 829 27)) [.Name txN (PS 829 28 829 32)] [] (PS 829 24 829 33)) .Add (.Constant (.int 1) 0 (PS 829 36 829 37)) (PS 829 24 829 37)] (PS 829 23 829 38)) (PS 829 11 829 38)
noncomputable abbrev toEn : Stmt := .Assign [.Name enN (PS 829 4 829 8)] toEx (PS 829 4 829 38)
theorem to0 : stAt (bodyOf fTold) 0 = toEn := by kernel_rfl
noncomputable abbrev toLo : Expr := .BinOp (.Subscript (.Name fdN (PS 830 35 830 40)) (.Name (sN "j") (PS 830 41 830 42)) (PS 830 35 830 43)) .Sub (.Constant (.int 1) 0 (PS 830 46 830 47)) (PS 830 35 830 47)
noncomputable abbrev toHi : Expr := .BinOp (.Subscript (.Name enN (PS 830 48 830 52)) (.Name (sN "j") (PS 830 53 830 54)) (PS 830 48 830 55)) .Sub (.Constant (.int 1) 0 (PS 830 58 830 59)) (PS 830 48 830 59)
noncomputable abbrev toCut : Expr := .Subscript (.Name txN (PS 830 30 830 34)) (.Slice (some toLo) (some toHi) none (PS 830 35 830 59)) (PS 830 30 830 60)
noncomputable abbrev toCl : Expr := .Call (.Name (sN "_law_closed") (PS 830 18 830 29)) [toCut] [] (PS 830 18 830 61)
noncomputable abbrev toElt : Expr := .Call (.Name (sN "split") (PS 830 12 830 17)) [toCl] [] (PS 830 12 830 62)
noncomputable abbrev toIter : Expr := .Call (.Name (sN "range") (PS 830 72 830 77)) [.Call (.Name (sN "len") (PS 830 78 830 81)) [.Name fdN (PS 830 82 830 87)] [] (PS 830 78 830 88)] [] (PS 830 72 830 89)
noncomputable abbrev toSc : Scope := { kind := .function, names := [(sN ".0", .local), (sN "j", .local), (sN "split", .globalImplicit), (sN "_law_closed", .globalImplicit), (enN, .free), (fdN, .free), (txN, .free)], isGenerator := false, isCoroutine := false, more := [] }
noncomputable abbrev toRet : Stmt := .Return (some (.ListComp toElt [⟨.Name (sN "j") (PS 830 67 830 68), toIter, [], 0⟩] toSc (PS 830 11 830 90))) (PS 830 4 830 90)
theorem to1 : (bodyOf fTold).drop 1 = [toRet] := by kernel_rfl
noncomputable abbrev toCls (L : Addr) : List (Str × Addr) := [(txN, L + 1), (fdN, L + 1 + 1), (enN, L + 1 + 1 + 1)]
theorem to_clos (L : Addr) : closureFor toSc (toEnv L) = pure (toCls L) := by kernel_rfl
end Mine
end -- H24
section -- H25
set_option maxRecDepth 100000
set_option maxHeartbeats 4000000
namespace Mine
section
variable {w : World} {mg mb : Str → Option Value} {b₀ : Heap} {A : Around} {s s₀ s' : Shared} {env : Env} {C : Addr} {frs e : Objs} {outer : List Env} {loc : Loc} {fp : List Addr}
/-- within a comprehension: behind a call that raises and catches within -/
theorem RF.keptC (fa : FrsAt frs outer b₀ s₀.heap) (hC : C ∉ frA outer) (h : RF s₀ (hideAll s₀.heap (fp ++ frs.map (·.1))) env C (LedF frs) loc e s) (k : KeptF outer [] s.heap s'.heap) (hs : SameRest s s') : RF s₀ (hideAll s₀.heap (fp ++ frs.map (·.1))) env C (LedF frs) loc e s' := by
  obtain ⟨h1, m, own, F, N, l, f', rfl, up, off⟩ := h
  have ofA : ∀ b, b ∉ frs.map (·.1) → b ∉ frA outer := fun b h2 q => by rw [fa.names] at h2; exact h2 q
  obtain ⟨f'', up', at'⟩ := up.step (hp := s.heap) (hp' := s'.heap) (fun p hp => (N p (List.mem_append_right _ hp)).1) (fun p hp => (fa.at_ p hp).2.2) (fun x o e nf => k.upto x o e (fun q => nomatch q) nf)
  refine ⟨h1.trans hs, m, e ++ f'', ⟨?_, fun b o e => ?_, F.above⟩, fun p hp => ?_, l, f'', rfl, up', off⟩
  · obtain ⟨oL, es, ep, eL, dL, r⟩ := F.ns
    exact ⟨oL, es, ep, k.old _ _ eL (fun q => nomatch q) hC, dL, r⟩
  · refine k.old b o (F.keep b o e) (fun q => nomatch q) (ofA b fun q => ?_)
    rw [hideAll_none _ (List.mem_append_right _ q)] at e; cases e
  · rcases List.mem_append.mp hp with hp | hp
    · have P := N p (List.mem_append_left _ hp)
      exact ⟨k.old _ _ P.1 (fun q => nomatch q) (ofA _ (off p hp)), P.2⟩
    · have hn : p.1 ∈ f'.map (·.1) := by rw [up.names, ← up'.names]; exact List.mem_map_of_mem hp
      obtain ⟨q, hq, e⟩ := List.mem_map.mp hn
      have P := N q (List.mem_append_right _ hq)
      rw [e] at P
      exact ⟨at' p hp, P.2⟩
theorem RF.stkC (fa : FrsAt frs outer b₀ s₀.heap) (sk : Stk A outer b₀ s₀.heap) (hfp : ∀ a ∈ fp, b₀.get? a = none) (h : RF s₀ (hideAll s₀.heap (fp ++ frs.map (·.1))) env C (LedF frs) loc e s) : Stk A outer b₀ s.heap := by
  obtain ⟨h1, m, own, F, N, l, f', rfl, up, off⟩ := h
  refine ⟨sk.hd, sk.fr, fun b o e => F.keep b o (hideAll_get _ (sk.st b o e) fun q => ?_), frames_on (fun b o e hb => ?_) sk.ff⟩
  · rcases List.mem_append.mp q with q | q
    · rw [hfp _ q] at e; cases e
    · obtain ⟨p, hp, rfl⟩ := List.mem_map.mp q
      rw [(fa.at_ p hp).2.1] at e; cases e
  · have hb : b ∈ frA outer := hb
    rw [← fa.names] at hb
    obtain ⟨p, hp, rfl⟩ := List.mem_map.mp hb
    obtain ⟨sl, q⟩ := up.find p hp
    have e2 := (fa.at_ p hp).1
    rw [e] at e2
    cases e2
    exact ⟨_, (N _ (List.mem_append_right _ q)).1, rfl⟩
end
/-- lists of texts among the made objects -/
inductive ListsIn (bl : Objs) : List Value → List (List (List Nat)) → Prop
  | nil : ListsIn bl [] []
  | cons {S us c ws vs wss} : (S, lstObj us c) ∈ bl → Sims us (ws.map MV.str) → ListsIn bl vs wss → ListsIn bl (.ref S :: vs) (ws :: wss)
theorem ListsIn.sub {bl bl' : Objs} {vs : List Value} {wss : List (List (List Nat))} (h : ListsIn bl vs wss) (k : ∀ p ∈ bl, p ∈ bl') : ListsIn bl' vs wss := by
  induction h with
  | nil => exact .nil
  | cons a b _ ih => exact .cons (k _ a) b ih
theorem ListsIn.app {bl : Objs} {vs : List Value} {wss : List (List (List Nat))} (h : ListsIn bl vs wss) {S : Addr} {us : List Value} {c : Nat} {ws : List (List Nat)} (a : (S, lstObj us c) ∈ bl) (b : Sims us (ws.map MV.str)) : ListsIn bl (vs ++ [.ref S]) (wss ++ [ws]) := by
  induction h with
  | nil => exact .cons a b .nil
  | cons a' b' _ ih => exact .cons a' b' ih
section
variable {w : World} {mg mb : Str → Option Value} {b₀ : Heap} {A : Around} {s : Shared} {R : Result → Shared → Prop} {l : List Nat} {t : Value} {outer : List Env}
theorem told_enter {Fa : Addr} (Bs : Base w mg mb b₀) (sk : Stk A outer b₀ s.heap) (hroom : A.depth < recursionLimit) (ht : Sim t (.str l))
    (h : ∀ L s₁ frs o1 o2 o3 tt, FrsAt frs outer b₀ s.heap → s.heap.get? L = none → b₀.get? L = none → Base w mg mb (hideAll s.heap ([] ++ frs.map (·.1))) → o1.data = .cell (some (.str ⟨l.toArray⟩ tt)) → o2.data = .cell (some (.ref Fa)) → o3.data = .cell none →
      RF s (hideAll s.heap ([] ++ frs.map (·.1))) (toEnv L) L (LedF frs) [] [(L + 1, o1), (L + 1 + 1, o2), (L + 1 + 1 + 1, o3)] s₁ →
      wpAny (model PG w) (A.deeper (toEnv L)) (execs (bodyOf fTold) (toEnv L)) (fun fl s' => R (.ok (.ret (flowV fl))) s')
        (fun e s' => wpAny (model PG w) (A.deeper (toEnv L)) (leaving (toEnv L) e) (fun _ s'' => R (.error e) s'') (fun e' s'' => R (.error e') s'') s') s₁) :
    codeAny (model PG w) A (.call (.ref 783) ⟨[t, .ref Fa], []⟩) R s := by
  obtain ⟨frs, fa⟩ := frs_of sk.ff
  have X := (Bs.keeps sk.st).X
  refine codeAny_call_function hroom (X _ _ (to_here w)) rfl (by kernel_rfl) (by kernel_rfl) (body := bodyOf fTold) (by kernel_rfl) (codeRec_of X (to_code w)) (binds_run (Bs.keeps sk.st) 100 (to_binds w t Fa) _ _ _ _ ?_)
  have hcl : fTold.closure = [] := by kernel_rfl
  rw [hcl]
  refine wpAny_newFunctionEnv_cells (by kernel_rfl) (fun x hx => ?_) fun env he s' x => ?_
  · simp only [List.mem_cons, List.not_mem_nil, or_false] at hx
    rcases hx with rfl | rfl
    · exact .inr ⟨by kernel_rfl, by kernel_rfl⟩
    · exact .inr ⟨by kernel_rfl, by kernel_rfl⟩
  generalize hLd : s.heap.objs.size = L at *
  rw [to_env] at he
  subst he
  refine ⟨((Bs.keeps sk.st).nl).keeps x.toInCall.keep, codeAny_func ?_⟩
  have nb : ∀ b, L ≤ b → s.heap.get? b = none := fun b hb => Heap.get?_none_of_le (Nat.le_trans (Nat.le_of_eq hLd) hb)
  have nL := nb L (Nat.le_refl _)
  have hL0 : b₀.get? L = none := by
    cases q : b₀.get? L with
    | none => rfl
    | some o => rw [sk.st _ _ q] at nL; cases nL
  have Bg : Base w mg mb (hideAll s.heap ([] ++ frs.map (·.1))) := base_hide Bs sk fa
  obtain ⟨o1, ho1, hd1⟩ := x.cell txN (L + 1) (by kernel_rfl)
  obtain ⟨o2, ho2, hd2⟩ := x.cell fdN (L + 1 + 1) (by kernel_rfl)
  obtain ⟨o3, ho3, hd3⟩ := x.cell enN (L + 1 + 1 + 1) (by kernel_rfl)
  obtain ⟨tt, rfl⟩ := ht
  have hd1 : o1.data = .cell (some (.str ⟨l.toArray⟩ tt)) := hd1
  have hd2 : o2.data = .cell (some (.ref Fa)) := hd2
  have hd3 : o3.data = .cell none := hd3
  have hk := x.toInCall.keep
  have hg : ∀ {b : Addr}, s.heap.get? b = none → (hideAll s.heap ([] ++ frs.map (·.1))).get? b = none := fun {b} e => by
    cases q : (hideAll s.heap ([] ++ frs.map (·.1))).get? b with
    | none => rfl
    | some o => rw [of_hideAll _ q] at e; cases e
  have nf : ∀ {b : Addr}, s.heap.get? b = none → b ∉ frs.map (·.1) := fun {b} e q => by
    obtain ⟨p, hp, z⟩ := List.mem_map.mp q
    have z : p.1 = b := z
    rw [← z, (fa.at_ p hp).1] at e; cases e
  obtain ⟨h₁, tk, es, _⟩ := x.done
  refine wpAny_mono (h L s' frs o1 o2 o3 tt fa nL hL0 Bg hd1 hd2 hd3 ⟨by rw [es]; exact ⟨rfl, rfl, rfl⟩, _, [(L + 1, o1), (L + 1 + 1, o2), (L + 1 + 1 + 1, o3)] ++ frs, ⟨x.toInCall.ns, fun b o e => hk b o (of_hideAll _ e), Nat.le_of_eq ((hideAll_size _ _).trans hLd)⟩, fun p hp => ?_, fun y mv hy => by simp at hy, frs, rfl, UpTo.refl _, fun p hp => ?_⟩) (fun fl s'' q => ?_) fun _ _ q => q
  · rcases List.mem_append.mp hp with hp | hp
    · simp only [List.mem_cons, List.not_mem_nil, or_false] at hp
      rcases hp with rfl | rfl | rfl
      · exact ⟨ho1, Nat.ne_of_gt (Nat.lt_succ_self L), hg (nb _ (Nat.le_succ _))⟩
      · exact ⟨ho2, Nat.ne_of_gt (Nat.lt_succ_of_lt (Nat.lt_succ_self L)), hg (nb _ (Nat.le_succ_of_le (Nat.le_succ _)))⟩
      · exact ⟨ho3, Nat.ne_of_gt (Nat.lt_succ_of_lt (Nat.lt_succ_of_lt (Nat.lt_succ_self L))), hg (nb _ (Nat.le_succ_of_le (Nat.le_succ_of_le (Nat.le_succ _))))⟩
    · exact ⟨hk _ _ (fa.at_ p hp).1, (fun q => by rw [← q, (fa.at_ p hp).1] at nL; cases nL), hideAll_none _ (List.mem_append_right _ (List.mem_map_of_mem hp))⟩
  · simp only [List.mem_cons, List.not_mem_nil, or_false] at hp
    rcases hp with rfl | rfl | rfl
    · exact nf (nb _ (Nat.le_succ _))
    · exact nf (nb _ (Nat.le_succ_of_le (Nat.le_succ _)))
    · exact nf (nb _ (Nat.le_succ_of_le (Nat.le_succ_of_le (Nat.le_succ _))))
  · cases fl <;> exact q
end
end Mine
end -- H25
section -- H26
set_option maxRecDepth 100000
set_option maxHeartbeats 4000000
namespace Mine
theorem Sims.drop {a : List Value} {c : List MV} (h : Sims a c) : ∀ k, Sims (a.drop k) (c.drop k) := by
  induction h with
  | nil => intro k; cases k <;> exact .nil
  | cons h1 h2 ih =>
    intro k
    cases k with
    | zero => exact .cons h1 h2
    | succ k => exact ih k
theorem FrsAt.grow {frs : Objs} {outer : List Env} {b₀ h h' : Heap} (fa : FrsAt frs outer b₀ h) (k : h.StaysIn h') : FrsAt frs outer b₀ h' := ⟨fa.names, fun p hp => ⟨k _ _ (fa.at_ p hp).1, (fa.at_ p hp).2⟩⟩
/-- where each piece ends -/
noncomputable def endsOf (fs : List Nat) (n : Nat) : List Nat := fs.drop 1 ++ [n + 1]
noncomputable def pieceOf (l : List Nat) (fs : List Nat) (j : Nat) : List Nat := pcut l (some ((fs[j]?).getD 1 - 1)) (some (((endsOf fs l.length)[j]?).getD 1 - 1))
section
variable {w : World} {mg mb : Str → Option Value} {b₀ : Heap} {A : Around} {s s₀ : Shared} {R : Result → Shared → Prop} {l : List Nat} {t : Value} {outer : List Env} {frs : Objs} {L : Addr}
noncomputable abbrev RFt (s₀ : Shared) (frs : Objs) (L : Addr) (loc : Loc) (e : Objs) (s : Shared) : Prop := RF s₀ (hideAll s₀.heap ([] ++ frs.map (·.1))) (toEnv L) L (LedF frs) loc e s
noncomputable abbrev toFace (w : World) : Face Objs := plainFace w fTold.scope [] noE noS noC
/-- ends = found[1:] + [len(text) + 1] -/
theorem to_ends {E : Value → Shared → Prop} {o1 o2 : Obj} {tt : Tok} {Fa : Addr} {e : Objs} {fs : List Nat} {fvs : List Value} {fc : Nat} {Q : Value → Shared → Prop} (ok : FaceOk (toFace w) PG w (A.deeper (toEnv L)) (toEnv L) E (RFt s₀ frs L)) (hlen : l.length ≤ 5000) (hfl : fs.length ≤ 5000)
    (hd1 : o1.data = .cell (some (.str ⟨l.toArray⟩ tt))) (hd2 : o2.data = .cell (some (.ref Fa))) (m1 : (L + 1, o1) ∈ e) (m2 : (L + 1 + 1, o2) ∈ e) (hR : RFt s₀ frs L [] e s) (hFa : s.heap.get? Fa = some (lstObj fvs fc)) (hfs : Sims fvs (fs.map fun (r : Nat) => MV.int (r : Int)))
    (h : ∀ En s' evs, SameRest s s' → s.heap.StaysIn s'.heap → s.heap.get? En = none → s'.heap.get? En = some (lstObj evs 0) → Sims evs ((endsOf fs l.length).map fun (r : Nat) => MV.int (r : Int)) → Q (.ref En) s') :
    wpAny (model PG w) (A.deeper (toEnv L)) (eval toEx (toEnv L)) Q E s := by
  have hfl' : fvs.length ≤ 5000 := by rw [hfs.len, List.length_map]; exact hfl
  refine wpAny_BinOp (wpAny_Subscript_list_slice ?_)
  refine wpAny_Name (wpAny_loadName_cell (by kernel_rfl) (by kernel_rfl) (by kernel_rfl) ⟨o2, hR.here m2, hd2⟩ ?_) (by decide)
  rw [evalPart_some]
  refine wpAny_Constant_int ?_
  rw [evalPart_none]
  refine wpAny_pure ⟨Fa, fvs.toArray, some 1, none, rfl, isList_lst hFa, (by rw [sizeLine_eq, List.size_toArray]; omega), .int _ _, .none, ?_⟩
  have e1 : slicePick fvs.toArray (some 1) none none = (fvs.drop 1).toArray := slicePick_from' fvs.toArray 1
  rw [e1]
  generalize hh1 : (({ s with toks := s.toks + 1 } : Shared).heap.push { cls := .type "slice", data := .fields #[.int 1 s.toks, .none, .none] }) = h1
  have k1 : s.heap.StaysIn h1 := fun b o e => by rw [← hh1]; exact Heap.get?_push_of_some _ e
  have z1 : h1.objs.size = s.heap.objs.size + 1 := by rw [← hh1]; exact Heap.size_push ..
  have hS : (h1.push (lstObj (fvs.drop 1) 0)).get? (s.heap.objs.size + 1) = some (lstObj (fvs.drop 1) 0) := Heap.get?_push_at z1.symm rfl
  have k2 : s.heap.StaysIn (h1.push (lstObj (fvs.drop 1) 0)) := fun b o e => Heap.get?_push_of_some _ (k1 b o e)
  show wpAny _ _ (eval (.List _ _) (toEnv L)) _ _ { s with heap := h1.push (lstObj (fvs.drop 1) 0), toks := s.toks + 1 }
  have hR2 : RFt s₀ frs L [] e { s with heap := h1.push (lstObj (fvs.drop 1) 0), toks := s.toks + 1 } := RF.growFG (s := s) (s' := { s with heap := h1.push (lstObj (fvs.drop 1) 0), toks := s.toks + 1 }) hR k2 ⟨rfl, rfl, rfl⟩ [] (fun _ h => nomatch h)
  refine wpAny_List (wpAny_items_cons (wpAny_BinOp (wp_call1 ok (fv := .builtin "len") (by kernel_rfl) rfl hR2 ?_)))
  refine wpAny_Name (wpAny_loadName_cell (by kernel_rfl) (by kernel_rfl) (by kernel_rfl) ⟨o1, hR2.here m1, hd1⟩ ⟨⟨_, _, hR2⟩, ?_⟩) (by decide)
  refine P.len_str (by rw [str_len]; omega) (wpAny_Constant_int (P.add_int (wpAny_items_nil ⟨by rw [sizeLine_eq]; simp, ?_⟩)))
  rw [str_len]
  refine P.add_list (items := (fvs.drop 1).toArray) (n := 0) (items2 := [Value.int ((l.length : Int) + 1) _].toArray) (n2 := 0) (Heap.get?_push_of_some _ hS) (Heap.get?_push_size _ rfl) ?_ (by rw [sizeLine_eq, List.size_toArray, List.length_drop]; simp; omega)
  refine h _ _ (fvs.drop 1 ++ [Value.int ((l.length : Int) + 1) (s.toks + 1 + 1 + 1 + 1)]) ⟨rfl, rfl, rfl⟩ (fun b o e => Heap.get?_push_of_some _ (Heap.get?_push_of_some _ (k2 b o e))) ?_ ?_ ?_
  · refine Heap.get?_none_of_le ?_
    dsimp only
    rw [Heap.size_push, Heap.size_push, z1]
    omega
  · exact (Heap.get?_push_size _ rfl).trans (by simp [lstObj])
  · unfold endsOf
    rw [List.map_append, List.map_drop]
    exact (hfs.drop 1).app (.cons ⟨_, by simp; rfl⟩ .nil)
end
end Mine
end -- H26
section -- H27
set_option maxRecDepth 100000
set_option maxHeartbeats 4000000
namespace Mine
noncomputable abbrev toC (L C : Addr) : Env := compEnvC toSc (toCls L) C (toEnv L)
theorem to_gf1 (w : World) (L C : Addr) : gF w (toC L C).scope (sN "split") = some (.ref 752) := by kernel_rfl
theorem to_gf2 (w : World) (L C : Addr) : gF w (toC L C).scope (sN "_law_closed") = some (.ref 771) := by kernel_rfl
/-- what the told pieces lean on -/
structure ToAt (l : List Nat) (L Fa En : Addr) (fs : List Nat) (frs : Objs) (h : Heap) : Prop where
  tx : ∃ o t, h.get? (L + 1) = some o ∧ o.data = .cell (some (.str ⟨l.toArray⟩ t)) ∧ L + 1 ∉ frs.map (·.1)
  fd : ∃ o, h.get? (L + 1 + 1) = some o ∧ o.data = .cell (some (.ref Fa)) ∧ L + 1 + 1 ∉ frs.map (·.1)
  en : ∃ o, h.get? (L + 1 + 1 + 1) = some o ∧ o.data = .cell (some (.ref En)) ∧ L + 1 + 1 + 1 ∉ frs.map (·.1)
  fa : ∃ vs c, h.get? Fa = some (lstObj vs c) ∧ Sims vs (fs.map fun (r : Nat) => MV.int (r : Int)) ∧ Fa ∉ frs.map (·.1)
  ea : ∃ vs c, h.get? En = some (lstObj vs c) ∧ Sims vs ((endsOf fs l.length).map fun (r : Nat) => MV.int (r : Int)) ∧ En ∉ frs.map (·.1)
section
variable {w : World} {mg mb : Str → Option Value} {b₀ : Heap} {A : Around} {s s₁ : Shared} {l : List Nat} {outer : List Env} {frs : Objs} {L C Fa En : Addr} {fs : List Nat}
theorem told_elt {E' : Value → Shared → Prop} {Q' : Value → Shared → Prop} {i : Nat} {e : Objs} {ws : List (List Nat)} (Bs : Base w mg mb b₀) (sk : Stk A outer b₀ s₁.heap) (fa : FrsAt frs outer b₀ s₁.heap) (Bg : Base w mg mb (hideAll s₁.heap ([] ++ frs.map (·.1)))) (hroom : A.depth < 800) (hC : s₁.heap.get? C = none)
    (ta : ToAt l L Fa En fs frs s₁.heap) (hlen : l.length ≤ 5000) (hal : ∀ c ∈ l, c ∈ alpha) (hi : i < fs.length) (hfl : fs.length ≤ 5000) (h1 : ∀ r ∈ fs, 1 ≤ r ∧ r ≤ 6000) (hcl : ∀ c ∈ closeT (pieceOf l fs i), c ∈ alpha) (hcn : (closeT (pieceOf l fs i)).length ≤ 10000) (hw : TokS (closeT (pieceOf l fs i)) .sp ws)
    (hR : RFc s₁ frs toSc (toCls L) (toEnv L) C [(sN "j", .int i)] e s)
    (post : ∀ S s' us c, s.heap.get? S = none → Sims us (ws.map MV.str) → RFc s₁ frs toSc (toCls L) (toEnv L) C [(sN "j", .int i)] ([(S, lstObj us c)] ++ e) s' → Q' (.ref S) s') : wpAny (model PG w) A (eval toElt (toC L C)) Q' E' s := by
  have ok : ∀ E, FaceOk (plainFace w (toC L C).scope [] noE noS noC) PG w A (toC L C) E (RFc s₁ frs toSc (toCls L) (toEnv L) C) := fun E => faceE rfl (by kernel_rfl) (by kernel_rfl) rfl Bg rfl (fun _ _ _ _ h => h) (fun _ h => by cases h)
  have kp : ∀ {s : Shared} {loc : Loc} {e : Objs}, RFc s₁ frs toSc (toCls L) (toEnv L) C loc e s → ∀ b o, s₁.heap.get? b = some o → b ∉ frs.map (·.1) → s.heap.get? b = some o := fun {s loc e} hR b o q1 q2 => by
    obtain ⟨_, m, own, F, _⟩ := hR
    exact F.keep b o (hideAll_get _ q1 q2)
  have hCf : C ∉ frA outer := fun q => by
    rw [← fa.names] at q
    obtain ⟨p, hp, z⟩ := List.mem_map.mp q
    have z : p.1 = C := z
    rw [← z, (fa.at_ p hp).1] at hC; cases hC
  obtain ⟨ot, tt, t1, t2, t3⟩ := ta.tx
  obtain ⟨of, f1, f2, f3⟩ := ta.fd
  obtain ⟨oe, g1, g2, g3⟩ := ta.en
  obtain ⟨fvs, fc, a1, a2, a3⟩ := ta.fa
  obtain ⟨evs, ec, b1, b2, b3⟩ := ta.ea
  have hel : (endsOf fs l.length).length = fs.length := by unfold endsOf; simp; omega
  have h1' : ∀ r ∈ endsOf fs l.length, 1 ≤ r ∧ r ≤ 6000 := fun r hr => by
    unfold endsOf at hr
    rcases List.mem_append.mp hr with hr | hr
    · exact h1 r (List.mem_of_mem_drop hr)
    · rw [List.mem_singleton.mp hr]; omega
  have hfi : fs[i]? = some fs[i] := List.getElem?_eq_getElem hi
  have hei : (endsOf fs l.length)[i]? = some (endsOf fs l.length)[i] := List.getElem?_eq_getElem (by omega)
  have p1 := h1 fs[i] (List.getElem_mem hi)
  have p2 := h1' (endsOf fs l.length)[i] (List.getElem_mem (by omega))
  obtain ⟨vf, hvf, sf⟩ := a2.get (k := i) (mv := .int fs[i]) (by rw [List.getElem?_map, hfi]; rfl)
  obtain ⟨ve, hve, se⟩ := b2.get (k := i) (mv := .int (endsOf fs l.length)[i]) (by rw [List.getElem?_map, hei]; rfl)
  obtain ⟨tf, rfl⟩ := sf
  obtain ⟨te, rfl⟩ := se
  refine wp_call1 (ok _) (fv := .ref 752) (to_gf1 w L C) rfl hR ?_
  refine wp_call1 (ok _) (fv := .ref 771) (to_gf2 w L C) rfl hR ?_
  refine Subscript_ (wpAny_Name (wpAny_loadName_cell rfl (by kernel_rfl) (by kernel_rfl) ⟨ot, kp hR _ _ t1 t3, t2⟩ ?_) (by decide))
  refine wpAny_Slice ?_
  rw [evalPart_some]
  refine wpAny_BinOp (Subscript_ (wpAny_Name (wpAny_loadName_cell rfl (by kernel_rfl) (by kernel_rfl) ⟨of, kp hR _ _ f1 f3, f2⟩ ((ok _).name hR (v := .int i) (by kernel_rfl) fun v1 hv1 => ?_)) (by decide)))
  obtain ⟨tv1, rfl⟩ := hv1
  refine it_list (k := (i : Int)) (kp hR _ _ a1 a3) (by omega) (by omega) (by simpa using hvf) (wpAny_Constant_int (P.sub_int ?_))
  have hR2 := hR.toks (s.toks + 1 + 1)
  rw [evalPart_some]
  refine wpAny_BinOp (Subscript_ (wpAny_Name (wpAny_loadName_cell rfl (by kernel_rfl) (by kernel_rfl) ⟨oe, kp hR2 _ _ g1 g3, g2⟩ ((ok _).name hR2 (v := .int i) (by kernel_rfl) fun v2 hv2 => ?_)) (by decide)))
  obtain ⟨tv2, rfl⟩ := hv2
  refine it_list (k := (i : Int)) (kp hR2 _ _ b1 b3) (by omega) (by omega) (by simpa using hve) (wpAny_Constant_int (P.sub_int ?_))
  rw [evalPart_none]
  have e1 : ((fs[i] : Int) - 1) = ((fs[i] - 1 : Nat) : Int) := by omega
  have e2 : (((endsOf fs l.length)[i] : Int) - 1) = (((endsOf fs l.length)[i] - 1 : Nat) : Int) := by omega
  rw [e1, e2]
  refine wpAny_pure (wp_slice (A' := some (fs[i] - 1, _)) (B' := some ((endsOf fs l.length)[i] - 1, _)) ⟨_, Heap.get?_push_size _ rfl, rfl, rfl⟩ (by rw [sizeLine_eq]; omega) fun v tk hv => ?_)
  have ep : pcut l (some (fs[i] - 1)) (some ((endsOf fs l.length)[i] - 1)) = pieceOf l fs i := by
    unfold pieceOf
    rw [hfi, hei]; rfl
  have hv : Sim v (.str (pieceOf l fs i)) := by rw [← ep]; exact hv
  have hR3 := (hR.push (o := { cls := .type "slice", data := .fields #[partValue (some (((fs[i] - 1 : Nat) : Int), s.toks + 1)), partValue (some ((((endsOf fs l.length)[i] - 1 : Nat) : Int), s.toks + 1 + 1 + 1)), .none] }) rfl).toks tk
  refine ⟨⟨_, _, hR3⟩, ?_⟩
  have sk3 := RF.stkC (fp := []) (s := { s with heap := _, toks := tk }) fa sk (fun _ h => nomatch h) hR3
  refine wpAny_call (cl_c Bs sk3.st (by omega) sk.hd hv (by unfold pieceOf pcut; rw [List.length_drop, List.length_take]; omega) (fun c hc => hal c (List.mem_of_mem_take (List.mem_of_mem_drop hc))) fun v' s₄ hv' hs₄ hk₄ => ?_)
  have hR4 := RF.growFG (s := { s with heap := _, toks := tk }) hR3 hk₄ hs₄ [] (fun _ h => nomatch h)
  have hR4 : RFc s₁ frs toSc (toCls L) (toEnv L) C [(sN "j", .int i)] e s₄ := hR4
  have sk4 := RF.stkC (fp := []) fa sk (fun _ h => nomatch h) hR4
  refine ⟨⟨_, _, hR4⟩, wpAny_call (split_ok Bs sk4 (by omega) hv' (by omega) hcl hw fun S s₅ us c hs₅ hk₅ hS0 hus hS => ?_)⟩
  have hR5 := hR4.keptC fa hCf hk₅ hs₅
  have hS00 : s.heap.get? S = none := by
    cases q : s.heap.get? S with
    | none => rfl
    | some o => rw [hk₄ _ _ (Heap.get?_push_of_some _ q)] at hS0; cases hS0
  refine post S s₅ us c hS00 hus ?_
  obtain ⟨h1, m, own, F, N, lr, f', rfl, up, off⟩ := hR5
  obtain ⟨_, m4, own4, F4, N4, lr4, f4, rfl, up4, off4⟩ := hR4
  refine ⟨h1, m, [(S, lstObj us c)] ++ e ++ f', F, fun p hp => ?_, lr, f', rfl, up, fun p hp => ?_⟩
  · rw [List.append_assoc] at hp
    rcases List.mem_append.mp hp with hp | hp
    · rw [List.mem_singleton.mp hp]
      refine ⟨hS, fun q => ?_, ?_⟩
      · obtain ⟨oL, _, _, hL, _⟩ := F4.ns
        have q : S = C := q
        rw [← q, hS0] at hL; cases hL
      · cases z : (hideAll s₁.heap ([] ++ frs.map (·.1))).get? S with
        | none => rfl
        | some o => rw [F4.keep _ _ z] at hS0; cases hS0
    · exact N p hp
  · rcases List.mem_append.mp hp with hp | hp
    · rw [List.mem_singleton.mp hp]
      intro q
      rw [← up4.names] at q
      obtain ⟨x, hx, ex⟩ := List.mem_map.mp q
      have := (N4 x (List.mem_append_right _ hx)).1
      have ex : x.1 = S := ex
      rw [ex, hS0] at this; cases this
    · exact off p hp
end
end Mine
end -- H27
section -- H28
set_option maxRecDepth 100000
set_option maxHeartbeats 4000000
namespace Mine
section
variable {w : World} {mg mb : Str → Option Value} {b₀ : Heap} {A : Around} {s : Shared} {R : Result → Shared → Prop} {l : List Nat} {t : Value} {outer : List Env}
theorem range_c {E : Value → Shared → Prop} {n : Int} {tk : Tok} {Q : Value → Shared → Prop} (h : ∀ r s' t u v, SameRest s s' → s.heap.StaysIn s'.heap → s.heap.get? r = none → IsRange s'.heap r 0 n 1 t u v → Q (.ref r) s') : wpAny (model PG w) A (call (.type "range") [.int n tk]) Q E s :=
  call_range_1 (h _ _ _ _ _ ⟨rfl, rfl, rfl⟩ (fun _ _ e => Heap.get?_push_of_some _ e) (Heap.get?_none_of_le (Nat.le_refl _)) (IsRange.new _ _ _ _ _ _ _))
theorem told_c {Fa : Addr} {fs : List Nat} {fvs : List Value} {fc : Nat} {wss : List (List (List Nat))} (Bs : Base w mg mb b₀) (sk : Stk A outer b₀ s.heap) (hroom : A.depth < 780) (ht : Sim t (.str l)) (hFa : s.heap.get? Fa = some (lstObj fvs fc)) (hfs : Sims fvs (fs.map fun (r : Nat) => MV.int (r : Int))) (hFf : Fa ∉ frA outer)
    (hlen : l.length ≤ 5000) (hal : ∀ c ∈ l, c ∈ alpha) (hfl : fs.length ≤ 5000) (h1 : ∀ r ∈ fs, 1 ≤ r ∧ r ≤ 6000) (hwl : wss.length = fs.length)
    (hp : ∀ i, i < fs.length → TokS (closeT (pieceOf l fs i)) .sp ((wss[i]?).getD []) ∧ (∀ c ∈ closeT (pieceOf l fs i), c ∈ alpha) ∧ (closeT (pieceOf l fs i)).length ≤ 10000)
    (post : ∀ D s' vs c bl, SameRest s s' → KeptF outer [] s.heap s'.heap → s.heap.get? D = none → s'.heap.get? D = some (lstObj vs c) → ListsIn bl vs wss → (∀ p ∈ bl, s'.heap.get? p.1 = some p.2 ∧ s.heap.get? p.1 = none) → R (.ok (.ret (.ref D))) s') :
    codeAny (model PG w) A (.call (.ref 783) ⟨[t, .ref Fa], []⟩) R s := by
  have hrl : recursionLimit = 1000 := rfl
  refine told_enter Bs sk (by omega) ht fun L s₁ frs o1 o2 o3 tt fa hL hL0 Bg hd1 hd2 hd3 hR => ?_
  have hk : (toEnv L).scope.kind = .function := by kernel_rfl
  have ok : ∀ E, FaceOk (toFace w) PG w (A.deeper (toEnv L)) (toEnv L) E (RFt s frs L) := fun E => faceX Bg hk rfl (fun _ _ _ _ h => h) (fun _ h => by cases h)
  have kp : ∀ {s' : Shared} {loc : Loc} {e : Objs}, RFt s frs L loc e s' → s'.heap.get? Fa = some (lstObj fvs fc) := fun {s' loc e} hR => by
    obtain ⟨_, m, own, F, _⟩ := hR
    exact F.keep _ _ (hideAll_get _ hFa (by show Fa ∉ frs.map (·.1); rw [fa.names]; exact hFf))
  show wpAny _ _ (execs ((bodyOf fTold).drop 0) _) _ _ _
  refine st_exec _ (by kernel_rfl) to0 (wpAny_Assign_Name (to_ends (ok _) hlen hfl hd1 hd2 (.head _) (.tail _ (.head _)) hR (kp hR) hfs fun En s₂ evs hs₂ hk₂ hE0 hE hev => ?_) (swaps_plain rfl))
  have hR₂ := hR.growFG hk₂ hs₂ [(En, lstObj evs 0)] (fun p hp => by rw [List.mem_singleton.mp hp]; exact ⟨hE0, hE⟩)
  have neE : ∀ p ∈ [(L + 1, o1), (L + 1 + 1, o2), (L + 1 + 1 + 1, o3)], p.1 ≠ En := fun p hp q => by
    have := hR.here hp
    rw [q, hE0] at this; cases this
  refine wpAny_storeName_cell hk (by kernel_rfl) (by kernel_rfl) ⟨o3, hR₂.here (.tail _ (.tail _ (.tail _ (.head _)))), hd3⟩ fun h₃ hv₃ hs₃ => ?_
  obtain ⟨o3', ho3, hd3'⟩ := hv₃
  have hR₃ := hR₂.updF (a := L + 1 + 1 + 1) (e' := [(En, lstObj evs 0), (L + 1, o1), (L + 1 + 1, o2), (L + 1 + 1 + 1, o3')]) (h' := h₃) (tk := s₂.toks) ⟨_, .tail _ (.tail _ (.tail _ (.head _)))⟩ (fun b o hb e => (hs₃.2 b hb).trans e) (fun p hp => by
    simp only [List.mem_cons, List.not_mem_nil, or_false] at hp
    rcases hp with rfl | rfl | rfl | rfl
    · exact .inl ⟨.head _, Ne.symm (neE _ (.tail _ (.tail _ (.head _))))⟩
    · exact .inl ⟨.tail _ (.head _), Nat.ne_of_lt (Nat.lt_succ_of_lt (Nat.lt_succ_self _))⟩
    · exact .inl ⟨.tail _ (.tail _ (.head _)), Nat.ne_of_lt (Nat.lt_succ_self _)⟩
    · exact .inr (.inl ⟨rfl, ho3⟩))
  show wpAny _ _ (execs ((bodyOf fTold).drop 1) _) _ _ _
  rw [to1]
  refine wpAny_execs_cons (wpAny_Return_some (comp_c (outer := toEnv L :: outer) (b₀ := b₀) (mg := mg) (mb := mb) fs.length (fun _ i o => o = riObj i (fs.length - i) 1) (fun i => .int i) (fun _ => True) (fun i vs bl => ListsIn bl vs (wss.take i)) (to_clos L) (by decide) rfl (by decide) rfl (by decide) (by decide) (by kernel_rfl) (by kernel_rfl) (by omega) (fun I => itr_range sk.hd) (by rw [List.take_zero]; exact .nil) ?_))
  refine wp_call1 (ok _) (fv := .type "range") (by kernel_rfl) rfl hR₃ (wp_call1 (ok _) (fv := .builtin "len") (by kernel_rfl) rfl hR₃ ?_)
  refine wpAny_Name (wpAny_loadName_cell hk (by kernel_rfl) (by kernel_rfl) ⟨o2, hR₃.here (.tail _ (.tail _ (.head _))), hd2⟩ ⟨⟨_, _, hR₃⟩, ?_⟩) (by decide)
  have hfvl : fvs.length = fs.length := by rw [hfs.len, List.length_map]
  refine len_list (isList_lst (kp hR₃)) (by rw [List.size_toArray, hfvl]; omega) ⟨⟨_, _, hR₃.toks _⟩, ?_⟩
  rw [List.size_toArray, hfvl]
  refine range_c fun r s₄ ra rb rc hs₄ hk₄ hr0 hr => ?_
  let e₃ : Objs := [(En, lstObj evs 0), (L + 1, o1), (L + 1 + 1, o2), (L + 1 + 1 + 1, o3')]
  have hR₄ : RFt s frs L [] e₃ s₄ := RF.growFG (hR₃.toks _) hk₄ hs₄ [] (fun _ h => nomatch h)
  have sk₄ := RF.stkG (fp := []) fa rfl hk sk hL0 (fun _ h => nomatch h) hR₄
  obtain ⟨frs', fa'⟩ := frs_of sk₄.ff
  have Bg' : Base w mg mb (hideAll s₄.heap ([] ++ frs'.map (·.1))) := base_hide Bs sk₄ fa'
  have nof : ∀ {p : Addr × Obj}, p ∈ e₃ → p.1 ∉ frs'.map (·.1) := fun {p} hp => by rw [fa'.names]; exact hR₄.off fa rfl hp
  have ta : ToAt l L Fa En fs frs' s₄.heap := ⟨⟨o1, tt, hR₄.here (.tail _ (.head _)), hd1, nof (.tail _ (.head _))⟩, ⟨o2, hR₄.here (.tail _ (.tail _ (.head _))), hd2, nof (.tail _ (.tail _ (.head _)))⟩,
    ⟨o3', hR₄.here (.tail _ (.tail _ (.tail _ (.head _)))), hd3', nof (.tail _ (.tail _ (.tail _ (.head _))))⟩, ⟨fvs, fc, kp hR₄, hfs, fun q => by
      rw [fa'.names, frA, List.filterMap_cons] at q
      rcases List.mem_cons.mp q with q | q
      · rw [q, hL] at hFa; cases hFa
      · exact hFf q⟩, ⟨evs, 0, hR₄.here (.head _), hev, nof (.head _)⟩⟩
  refine ⟨frs', fa', Bg', fun _ _ => trivial, fun Q' hq => ?_, fun C i vs bl e s₅ E' Q' hi hb hC hR₅ hin hq => ?_, fun D s₅ vs c bl hb hs₅ hk₅ hD0 hD hbl => ?_⟩
  · refine wpAny_pyIter_range hr (small_one (by omega) (by omega) (by omega) (by omega)) ?_
    have hsz : Builtin.Range.rangeSize 0 (fs.length : Int) 1 = fs.length := by rw [rangeSize_one]; split <;> omega
    rw [hsz]
    exact hq _ _ _ ⟨rfl, rfl, rfl⟩ (fun b o e => Heap.get?_push_of_some _ e) (Heap.get?_none_of_le (Nat.le_refl _)) (Heap.get?_push_size _ rfl) (by simp) (by rw [Heap.size_push]; omega)
  · obtain ⟨q1, q2, q3⟩ := hp i hi
    refine told_elt Bs sk₄ fa' Bg' (by show A.depth + 1 < 800; omega) hC ta hlen hal hi hfl h1 q2 q3 q1 hR₅ fun S s₆ us c hS0 hus hR₆ => ?_
    refine hq _ s₆ [(S, lstObj us c)] ?_ (fun p hp => by rw [List.mem_singleton.mp hp]; exact hS0) hR₆
    have ewl : wss.take (i + 1) = wss.take i ++ [(wss[i]?).getD []] := by
      rw [List.take_add_one, List.getElem?_eq_getElem (by omega)]; rfl
    rw [ewl]
    exact (hb.sub fun p hp => List.mem_append_right _ hp).app (c := c) (us := us) (.head _) hus
  · have hR₅ := hR₄.keptG fa rfl hk₅ hs₅
    obtain ⟨x1, x2⟩ := hR₅.outKG fa
    have fr : ∀ b, s₄.heap.get? b = none → s.heap.get? b = none := fun b hb0 => by
      cases q : s.heap.get? b with
      | none => rfl
      | some o =>
        by_cases hf : b ∈ frs.map (·.1)
        · obtain ⟨_, m, own, F, N, lr, f', rfl, up, off⟩ := hR₄
          obtain ⟨p, hp, z⟩ := List.mem_map.mp hf
          obtain ⟨sl, q'⟩ := up.find p hp
          have := (N _ (List.mem_append_right _ q')).1
          have z : p.1 = b := z
          dsimp only at this
          rw [z, hb0] at this; cases this
        · obtain ⟨_, m, own, F, _⟩ := hR₄
          rw [F.keep _ _ (hideAll_get _ q hf)] at hb0; cases hb0
    exact post D s₅ vs c bl x1 x2 (fr D hD0) hD (by rw [← hwl, List.take_length] at hb; exact hb) fun p hp => ⟨(hbl p hp).1, fr _ (hbl p hp).2⟩
end
end Mine
end -- H28
section -- H29
set_option maxRecDepth 100000
set_option maxHeartbeats 4000000
namespace Mine
noncomputable def fText : FuncData := fdAt 757
theorem ff_text (w : World) : FnFacts w 757 fText := ⟨by kernel_rfl, by kernel_rfl⟩
noncomputable abbrev tblS : Str := sN "a '\"\\ b\t#'"
noncomputable def tbl : List Nat := [97, 32, 39, 34, 92, 32, 98, 9, 35, 39]
theorem tbl_eq : tblS = ⟨tbl.toArray⟩ := by kernel_rfl
noncomputable abbrev scN : Str := sN "script"
noncomputable abbrev txElt : Expr := .Subscript (.Constant (.str tblS) 0 (PS 773 20 773 36)) (.BinOp (.Name (sN "x") (PS 773 37 773 38)) .Mod (.Constant (.int 10) 0 (PS 773 41 773 43)) (PS 773 37 773 43)) (PS 773 20 773 44)
noncomputable abbrev txIter : Expr := .Subscript (.Name scN (PS 773 54 773 60)) (.Slice none (some (.Constant (.int 10) 0 (PS 773 62 773 64))) none (PS 773 61 773 64)) (PS 773 54 773 65)
noncomputable abbrev txSc : Scope := { kind := .function, names := [(sN ".0", .local), (sN "x", .local)], isGenerator := false, isCoroutine := false, more := [] }
noncomputable abbrev txComp : Expr := .ListComp txElt [⟨.Name (sN "x") (PS 773 49 773 50), txIter, [], 0⟩] txSc (PS 773 19 773 66)
noncomputable abbrev txRet : Stmt := .Return (some (.BinOp (.Call (.Attribute (.Constant (.str (sN "")) 0 (PS 773 11 773 13)) (sN "join") (PS 773 11 773 18)) [txComp] [] (PS 773 11 773 67)) .Add (.Constant (.str (sN "a 'b")) 0 (PS 773 70 773 76)) (PS 773 11 773 76))) (PS 773 4 773 76)
theorem tx0 : bodyOf fText = [txRet] := by kernel_rfl
noncomputable def sgn (x : Int) : Nat := (tbl[(x.fmod 10).toNat]?).getD 97
theorem sgn_mem (x : Int) : sgn x ∈ alpha := by
  unfold sgn
  have h1 : 0 ≤ x.fmod 10 := by rw [Int.fmod_eq_emod_of_nonneg _ (by decide)]; exact Int.emod_nonneg _ (by decide)
  have h2 : x.fmod 10 < 10 := by rw [Int.fmod_eq_emod_of_nonneg _ (by decide)]; exact Int.emod_lt_of_pos _ (by decide)
  generalize x.fmod 10 = y at *
  obtain ⟨k, rfl⟩ := Int.eq_ofNat_of_zero_le h1
  have h3 : k < 10 := by omega
  rw [Int.toNat_natCast]
  clear h1 h2
  revert h3
  revert k
  decide
noncomputable def textOf (ns : List Int) : List Nat := (ns.take 10).map sgn ++ [97, 32, 39, 98]
theorem glue_nil (ls : List (List Nat)) : Txt.join ⟨#[]⟩ (ls.map fun l => (⟨l.toArray⟩ : Str)) = ⟨ls.flatten.toArray⟩ := by
  unfold Txt.join Builtin.Str.glued
  cases ls with
  | nil => rfl
  | cons a r =>
    simp only [List.map_cons, List.drop_succ_cons, List.drop_zero, List.headD_cons]
    congr 1
    have : ∀ (r : List (List Nat)) (acc : Array Nat), (r.map fun l => (⟨l.toArray⟩ : Str)).foldl (fun acc p => acc ++ (⟨#[]⟩ : Str).cps ++ p.cps) acc = acc ++ r.flatten.toArray := by
      intro r
      induction r with
      | nil => intro acc; simp
      | cons b r ih => intro acc; simp only [List.map_cons, List.foldl_cons, ih]; simp
    rw [this]; simp
end Mine
end -- H29
section -- H30
set_option maxRecDepth 100000
set_option maxHeartbeats 4000000
namespace Mine
theorem size_le_push (h : Heap) (o : Obj) : h.objs.size ≤ (h.push o).objs.size := by rw [Heap.size_push]; exact Nat.le_succ _
theorem take_snoc {α : Type} (l : List α) {i : Nat} (h : i < l.length) : l.take (i + 1) = l.take i ++ [l[i]] := by
  rw [List.take_add_one, List.getElem?_eq_getElem h]; rfl
theorem nil_str : sN "" = (⟨#[]⟩ : Str) := by kernel_rfl
theorem Sims.take {a : List Value} {c : List MV} (h : Sims a c) : ∀ k, Sims (a.take k) (c.take k) := by
  induction h with
  | nil => intro k; cases k <;> exact .nil
  | cons h1 h2 ih =>
    intro k
    cases k with
    | zero => exact .nil
    | succ k => exact .cons h1 (ih k)
theorem sims_ints {vs : List Value} {ns : List Int} (h : IntsAre vs ns) : Sims vs (ns.map MV.int) := by
  induction h with
  | nil => exact .nil
  | cons n t _ ih => exact .cons ⟨t, rfl⟩ ih
theorem sims_strs {vs : List Value} {ls : List (List Nat)} (h : Sims vs (ls.map MV.str)) : ∃ q : List (Str × Tok), vs = strValues q ∧ q.map (·.1) = ls.map fun l => (⟨l.toArray⟩ : Str) := by
  induction ls generalizing vs with
  | nil => cases h; exact ⟨[], rfl, rfl⟩
  | cons l r ih =>
    cases h with
    | cons a b =>
      obtain ⟨q, rfl, e⟩ := ih b
      obtain ⟨t, rfl⟩ := a
      exact ⟨(⟨l.toArray⟩, t) :: q, rfl, by simp [e]⟩
section
variable {w : World} {mg mb : Str → Option Value} {b₀ : Heap} {A : Around} {s : Shared} {R : Result → Shared → Prop} {outer : List Env}
theorem text_c {Sc : Addr} {vs : List Value} {ns : List Int} (Bs : Base w mg mb b₀) (sk : Stk A outer b₀ s.heap) (hroom : A.depth < 800) (hSc : s.heap.IsList Sc vs.toArray) (hn : Sims vs (ns.map MV.int)) (hlen : ns.length ≤ 5000) (hSf : Sc ∉ frA outer)
    (post : ∀ v s', Sim v (.str (textOf ns)) → SameRest s s' → KeptF outer [] s.heap s'.heap → R (.ok (.ret v)) s') : codeAny (model PG w) A (.call (.ref 757) ⟨[.ref Sc], []⟩) R s := by
  have hrl : recursionLimit = 1000 := rfl
  refine enterK _ [scN] (vs := [.ref Sc]) (mvs := [.val (.ref Sc)]) [] Bs sk (ff_text w) (by omega) (.cons rfl .nil) (by kernel_rfl) (by kernel_rfl) (by kernel_rfl) fun L s₁ frs fa ok hR hL hL0 hk Bg => ?_
  have hvl : vs.length = ns.length := by rw [hn.len, List.length_map]
  have kp : ∀ {s' : Shared} {loc : Loc} {e : Objs}, RF s (hideAll s.heap (frs.map (·.1))) (envAt fText L 757) L (LedF frs) loc e s' → s'.heap.IsList Sc vs.toArray := fun {s' loc e} hR => by
    obtain ⟨_, m, own, F, _⟩ := hR
    obtain ⟨o, ho, r⟩ := hSc
    exact ⟨o, F.keep _ _ (hideAll_get _ ho (by rw [fa.names]; exact hSf)), r⟩
  rw [tx0]
  refine wpAny_execs_cons (wpAny_Return_some (wpAny_BinOp (wp_method rfl rfl rfl (wpAny_Constant_str (GM.join (callWith_method1 (wpAny_items_cons ?_ rfl) rfl rfl))))))
  have hR1 := hR.toks (s₁.toks + 1)
  let mvs : List MV := ((ns.take 10).map MV.int)
  have hml : mvs.length = (ns.take 10).length := by simp [mvs]
  have hit : ∀ (X : Addr) (I : Addr), Itr w (A.deeper (envAt fText L 757)) I mvs.length (fun i o => o.cls = .type "list_iterator" ∧ o.data = .fields #[.ref X, .int i 0]) (fun i => (mvs[i]?).getD .none) (fun h => h.get? X = some (lstObj (vs.take 10) 0)) := fun X I => itr_list sk.hd (by have := hn.take 10; rw [← List.map_take] at this; exact this)
  -- the source list is made first; its address is the size of the heap plus one
  refine comp_c (cl := []) (outer := envAt fText L 757 :: outer) (b₀ := b₀) (mg := mg) (mb := mb) mvs.length (fun _ i o => o.cls = .type "list_iterator" ∧ o.data = .fields #[.ref (s₁.heap.objs.size + 1), .int i 0]) (fun i => (mvs[i]?).getD .none) (fun h => h.get? (s₁.heap.objs.size + 1) = some (lstObj (vs.take 10) 0))
    (fun i us bl => Sims us (((ns.take 10).take i).map fun x => MV.str [sgn x])) (by kernel_rfl) (by decide) rfl (by decide) rfl (by decide) (by decide) (by kernel_rfl) (by kernel_rfl) (by rw [hml, List.length_take]; omega) (fun I => hit _ I) .nil ?_
  refine wpAny_Subscript_list_slice ((ok _).name hR1 (v := .val (.ref Sc)) (by kernel_rfl) fun v hv => ?_)
  cases hv
  rw [evalPart_none]
  refine wpAny_pure ?_
  rw [evalPart_some]
  refine wpAny_Constant_int ⟨Sc, vs.toArray, none, some 10, rfl, kp (hR1.toks _), (by rw [sizeLine_eq, List.size_toArray]; omega), .none, .int _ _, ?_⟩
  have e1 : slicePick vs.toArray none (some 10) none = (vs.take 10).toArray := slicePick_upto' vs.toArray 10
  rw [e1]
  have hR2 := ((hR.push (o := { cls := .type "slice", data := .fields #[.none, .int 10 (s₁.toks + 1), .none] }) rfl).push (o := lstObj (vs.take 10) 0) rfl).toks (s₁.toks + 1 + 1)
  have hz : (s₁.heap.push { cls := .type "slice", data := .fields #[.none, .int 10 (s₁.toks + 1), .none] }).objs.size = s₁.heap.objs.size + 1 := Heap.size_push ..
  have hX : ((s₁.heap.push { cls := .type "slice", data := .fields #[.none, .int 10 (s₁.toks + 1), .none] }).push (lstObj (vs.take 10) 0)).get? (s₁.heap.objs.size + 1) = some (lstObj (vs.take 10) 0) := Heap.get?_push_at hz.symm rfl
  have sk2 := RF.stk (s := { s₁ with heap := _, toks := s₁.toks + 1 + 1 }) fa rfl hk sk hL0 hR2
  obtain ⟨frs', fa'⟩ := frs_of sk2.ff
  have Bg' : Base w mg mb (hideAll ((s₁.heap.push { cls := .type "slice", data := .fields #[.none, .int 10 (s₁.toks + 1), .none] }).push (lstObj (vs.take 10) 0)) ([] ++ frs'.map (·.1))) := base_hide (s := { s₁ with heap := _, toks := s₁.toks + 1 + 1 }) Bs sk2 fa'
  have hXf : s₁.heap.objs.size + 1 ∉ frs'.map (·.1) := fun q => by
    rw [fa'.names, frA, List.filterMap_cons] at q
    have n1 : s₁.heap.get? (s₁.heap.objs.size + 1) = none := Heap.get?_none_of_le (Nat.le_succ _)
    obtain ⟨_, m, own, F, N, lr, f', rfl, up, off⟩ := id hR
    rcases List.mem_cons.mp q with q | q
    · obtain ⟨oL, _, _, hoL, _⟩ := F.ns
      rw [← q, n1] at hoL; cases hoL
    · have q : s₁.heap.objs.size + 1 ∈ frA outer := q
      rw [← fa.names] at q
      obtain ⟨p, hp, z⟩ := List.mem_map.mp q
      have z : p.1 = s₁.heap.objs.size + 1 := z
      obtain ⟨sl, q'⟩ := up.find p hp
      have := (N _ q').1
      dsimp only at this
      rw [z, n1] at this; cases this
  refine ⟨frs', fa', Bg', fun h k => k _ _ (hideAll_get _ hX hXf), fun Q' hq => ?_, fun C i us bl e s₅ E' Q' hi hb hC hR₅ hin hq => ?_, fun D s₅ us c bl hb hs₅ hk₅ hD0 hD hbl => ?_⟩
  · refine wpAny_pyIter_list (isList_lst hX) ?_
    exact hq _ _ _ ⟨rfl, rfl, rfl⟩ (fun b o e => Heap.get?_push_of_some _ e) (Heap.get?_none_of_le (Nat.le_refl _)) (Heap.get?_push_size _ rfl) ⟨rfl, rfl⟩ (size_le_push _ _)
  · have hi' : i < (ns.take 10).length := by rw [← hml]; exact hi
    have emv : (mvs[i]?).getD .none = .int (ns.take 10)[i] := by
      rw [List.getElem?_map, List.getElem?_eq_getElem hi']; rfl
    have hR₅' := hR₅
    rw [emv] at hR₅'
    have ok' : ∀ E, FaceOk (plainFace w (compEnvC txSc [] C (envAt fText L 757)).scope [] noE noS noC) PG w (A.deeper (envAt fText L 757)) (compEnvC txSc [] C (envAt fText L 757)) E (RFc { s₁ with heap := ((s₁.heap.push { cls := .type "slice", data := .fields #[.none, .int 10 (s₁.toks + 1), .none] }).push (lstObj (vs.take 10) 0)), toks := s₁.toks + 1 + 1 } frs' txSc [] (envAt fText L 757) C) := fun E => faceE rfl (by kernel_rfl) (by kernel_rfl) rfl Bg' rfl (fun _ _ _ _ h => h) (fun _ h => by cases h)
    refine Subscript_ (wpAny_Constant_str (wpAny_BinOp ((ok' _).name (hR₅'.toks _) (v := .int (ns.take 10)[i]) (by kernel_rfl) fun v1 hv1 => wpAny_Constant_int ?_)))
    obtain ⟨t1, rfl⟩ := hv1
    refine PyProof.Rows.mod_int (by decide) ?_
    have h1 : 0 ≤ (ns.take 10)[i].fmod 10 := by rw [Int.fmod_eq_emod_of_nonneg _ (by decide)]; exact Int.emod_nonneg _ (by decide)
    have h2 : (ns.take 10)[i].fmod 10 < 10 := by rw [Int.fmod_eq_emod_of_nonneg _ (by decide)]; exact Int.emod_lt_of_pos _ (by decide)
    have e3 : (ns.take 10)[i].fmod 10 = (((ns.take 10)[i].fmod 10).toNat : Int) := (Int.toNat_of_nonneg h1).symm
    have hlt : ((ns.take 10)[i].fmod 10).toNat < tbl.length := by show _ < 10; omega
    rw [tbl_eq, e3]
    refine it_str (x := sgn (ns.take 10)[i]) ?_ (by rw [sizeLine_eq]; decide) ?_
    · rw [List.getElem?_eq_getElem hlt]
      unfold sgn
      rw [List.getElem?_eq_getElem hlt]; rfl
    · refine hq _ _ [] ?_ (fun _ h => nomatch h) (hR₅.toks _)
      rw [take_snoc (ns.take 10) hi', List.map_append]
      exact hb.app (.cons ⟨_, rfl⟩ .nil)
  · rw [hml, List.take_length] at hb
    have hb : Sims us (((ns.take 10).map fun x => [sgn x]).map MV.str) := by rw [List.map_map]; exact hb
    obtain ⟨q, rfl, eq⟩ := sims_strs hb
    have hR6 := RF.kept (s := { s₁ with heap := _, toks := s₁.toks + 1 + 1 }) fa rfl hR2 hk₅ hs₅
    refine wpAny_items_nil (SC.join (isList_lst hD) eq ?_ fun t' k => wpAny_Constant_str ?_)
    · unfold JoinOk
      rw [Bool.not_eq_true']
      rw [nil_str]
      refine StrLaws.joinFits (B := 1) (fun y hy => ?_) (by simp [Str.length]; omega)
      simp only [List.map_map, List.mem_map] at hy
      obtain ⟨z, _, rfl⟩ := hy
      simp [Str.length]
    · rw [nil_str, glue_nil]
      have ef : ((ns.take 10).map fun x => [sgn x]).flatten = (ns.take 10).map sgn := by
        induction (ns.take 10) with
        | nil => rfl
        | cons a r ih => simp [ih]
      rw [ef]
      have e4 : sN "a 'b" = (⟨[97, 32, 39, 98].toArray⟩ : Str) := by kernel_rfl
      rw [e4]
      refine PyProof.Rows.add_str (fun t'' tk => ?_) (by rw [str_len, str_len, sizeLine_eq, List.length_map, List.length_take]; simp; omega)
      rw [str_app]
      obtain ⟨o1, o2⟩ := (hR6.toks tk).outK fa
      exact post _ _ ⟨t'', rfl⟩ o1 o2
end
end Mine
end -- H30
section -- K1
set_option maxRecDepth 100000
namespace Mine
/-- the mode behind a text -/
noncomputable def modeF : RM → List Nat → RM
  | md, [] => md
  | md, c :: r => modeF (rturn md c).1 r
/-- the words, the one at hand first -/
noncomputable def wds : RM → List Nat → List Nat → List (List Nat)
  | .gap, _, [] => []
  | _, cur, [] => [cur]
  | .gap, cur, c :: r => match (rturn .gap c).2.1 with
    | true => wds (rturn .gap c).1 (rturn .gap c).2.2 r
    | false => wds .gap cur r
  | md, cur, c :: r => match (rturn md c).1 with
    | .gap => cur :: wds .gap [] r
    | m' => wds m' (cur ++ (rturn md c).2.2) r
/-- where the words begin -/
noncomputable def begs : RM → Nat → List Nat → List Int
  | _, _, [] => []
  | md, i, c :: r => match (rturn md c).2.1 with
    | true => ((i : Int) + 1) :: begs (rturn md c).1 (i + 1) r
    | false => begs (rturn md c).1 (i + 1) r
theorem rd_mode : ∀ (l : List Nat) (i : Nat) (md : RM) (beg : List Int) (wr : List (List Nat)), (rdGo l i md beg wr).1 = modeF md l
  | [], _, _, _, _ => rfl
  | c :: r, i, md, beg, wr => by
    show (rdGo r _ _ _ _).1 = _
    rw [rd_mode r]; rfl
theorem rd_begs : ∀ (l : List Nat) (i : Nat) (md : RM) (beg : List Int) (wr : List (List Nat)), (rdGo l i md beg wr).2.1 = beg ++ begs md i l
  | [], _, _, beg, _ => by simp [rdGo, begs]
  | c :: r, i, md, beg, wr => by
    unfold rdGo begs
    rw [rd_begs r]
    cases (rturn md c).2.1 <;> simp
/-- a word begins only behind a gap; a gap lays nothing -/
theorem rturn_new (md : RM) (c : Nat) (h : md ≠ .gap) : (rturn md c).2.1 = false := by
  cases md <;> simp [rturn] at h ⊢ <;> (repeat' split) <;> rfl
theorem rturn_gap (md : RM) (c : Nat) (h : (rturn md c).1 = .gap) : (rturn md c).2.2 = [] := by
  cases md <;> simp only [rturn] at h ⊢ <;> (repeat' split at h) <;> simp_all
theorem rturn_gap0 (c : Nat) : (rturn .gap c).2.1 = false → (rturn .gap c).1 = .gap := by
  simp only [rturn]
  (repeat' split) <;> simp
theorem rturn_gap1 (c : Nat) : (rturn .gap c).2.1 = true → (rturn .gap c).1 ≠ .gap := by
  simp only [rturn]
  (repeat' split) <;> simp
theorem lay_eq (l cur : List Nat) (r : List (List Nat)) : layOn l (cur :: r) = (cur ++ l) :: r := by
  cases l <;> simp [layOn]
theorem wds_gapc {md : RM} {cur : List Nat} {c : Nat} {r : List Nat} (h : md ≠ .gap) (hg : (rturn md c).1 = .gap) : wds md cur (c :: r) = cur :: wds .gap [] r := by
  cases md <;> first | exact absurd rfl h | (simp only [wds, hg])
theorem wds_onc {md : RM} {cur : List Nat} {c : Nat} {r : List Nat} (h : md ≠ .gap) (hg : (rturn md c).1 ≠ .gap) : wds md cur (c :: r) = wds (rturn md c).1 (cur ++ (rturn md c).2.2) r := by
  cases md <;> first | exact absurd rfl h | skip
  all_goals
    simp only [wds]
theorem rd_wds : ∀ (l : List Nat) (i : Nat) (md : RM) (beg : List Int) (wr : List (List Nat)),
    (md = .gap → (rdGo l i md beg wr).2.2.reverse = wr.reverse ++ wds .gap [] l) ∧ (md ≠ .gap → ∀ cur r, wr = cur :: r → (rdGo l i md beg wr).2.2.reverse = r.reverse ++ wds md cur l)
  | [], i, md, beg, wr => by
    constructor
    · rintro rfl; simp [rdGo, wds]
    · rintro h cur r rfl
      cases md <;> first | exact absurd rfl h | simp [rdGo, wds]
  | c :: l, i, md, beg, wr => by
    constructor
    · rintro rfl
      unfold rdGo wds
      cases hn : (rturn .gap c).2.1 with
      | true =>
        simp only
        rw [lay_eq, List.nil_append]
        exact (rd_wds l _ _ _ _).2 (rturn_gap1 c hn) _ _ rfl
      | false =>
        simp only
        have h1 := rturn_gap0 c hn
        rw [rturn_gap .gap c h1, h1]
        exact (rd_wds l _ _ _ _).1 rfl
    · rintro h cur r rfl
      unfold rdGo
      rw [rturn_new md c h]
      simp only
      rw [lay_eq]
      by_cases hg : (rturn md c).1 = .gap
      · rw [wds_gapc h hg, hg, rturn_gap md c hg, List.append_nil]
        rw [(rd_wds l _ _ _ _).1 rfl]
        simp
      · rw [wds_onc h hg]
        exact (rd_wds l _ _ _ _).2 hg _ _ rfl
end Mine
end -- K1
section -- K2
set_option maxRecDepth 100000
namespace Mine
/-- the lexer stands where the reading stands, within a word -/
noncomputable def Corr (md : RM) (st : LS) (q : Bool) (e : Nat) (tok : List Nat) : Prop := match md with
  | .gap => False
  | .word => st = .a ∧ (tok ≠ [] ∨ q = true)
  | .sq => st = .q 39
  | .dq => st = .q 34
  | .esc => st = .esc ∧ e = 97
  | .within => st = .esc ∧ e = 34
theorem turn_gap {md : RM} {st : LS} {q : Bool} {e : Nat} {tok : List Nat} {c : Nat} (h : Corr md st q e tok) (hg : (rturn md c).1 = .gap) : turn st q e tok (some c) = .brk .sp q tok := by
  cases md with
  | gap => exact h.elim
  | word =>
    obtain ⟨rfl, h⟩ := h
    have hw : isWs c = true := by
      by_cases hw : isWs c = true
      · exact hw
      · simp only [rturn, hw] at hg
        (repeat' split at hg) <;> simp_all
    unfold turn
    simp only [hw, if_true]
    rcases h with h | h
    · cases tok with
      | nil => exact absurd rfl h
      | cons a b => rfl
    · subst h; simp
  | sq => simp only [rturn] at hg; (repeat' split at hg) <;> simp_all
  | dq => simp only [rturn] at hg; (repeat' split at hg) <;> simp_all
  | esc => simp [rturn] at hg
  | within => simp [rturn] at hg
theorem turn_on {md : RM} {st : LS} {q : Bool} {e : Nat} {tok : List Nat} {c : Nat} (h : Corr md st q e tok) (hg : (rturn md c).1 ≠ .gap) : ∃ st' q' e', turn st q e tok (some c) = .cont st' q' e' (tok ++ (rturn md c).2.2) ∧ Corr (rturn md c).1 st' q' e' (tok ++ (rturn md c).2.2) := by
  cases md with
  | gap => exact h.elim
  | word =>
    obtain ⟨rfl, h⟩ := h
    by_cases hw : isWs c = true
    · simp [rturn, hw] at hg
    · unfold turn
      simp only [rturn, hw]
      by_cases h39 : c = 39
      · subst h39; exact ⟨.q 39, q, e, by simp, by simp [Corr]⟩
      · by_cases h34 : c = 34
        · subst h34; exact ⟨.q 34, q, e, by simp, by simp [Corr]⟩
        · by_cases h92 : c = 92
          · subst h92; exact ⟨.esc, q, 97, by simp, by simp [Corr]⟩
          · simp only [h39, h34, h92, beq_iff_eq]
            exact ⟨.a, q, e, by simp [h39, h34], by simp [Corr]⟩
  | sq =>
    have h : st = .q 39 := h
    subst h
    unfold turn
    simp only [rturn]
    by_cases h39 : c = 39
    · subst h39; exact ⟨.a, true, e, by simp, by simp [Corr]⟩
    · refine ⟨.q 39, true, e, ?_, ?_⟩ <;> simp [h39, Corr]
  | dq =>
    have h : st = .q 34 := h
    subst h
    unfold turn
    simp only [rturn]
    by_cases h34 : c = 34
    · subst h34; exact ⟨.a, true, e, by simp, by simp [Corr]⟩
    · by_cases h92 : c = 92
      · subst h92; exact ⟨.esc, true, 34, by simp, by simp [Corr]⟩
      · refine ⟨.q 34, true, e, ?_, ?_⟩ <;> simp [h34, h92, Corr]
  | esc =>
    obtain ⟨rfl, rfl⟩ := h
    exact ⟨_, _, _, rfl, rfl, .inl (by simp [rturn])⟩
  | within =>
    obtain ⟨rfl, rfl⟩ := h
    refine ⟨.q 34, q, 34, ?_, rfl⟩
    unfold turn
    simp only [rturn]
    by_cases h34 : c = 34
    · subst h34; rfl
    · by_cases h92 : c = 92
      · subst h92; rfl
      · simp [h34, h92]
theorem turn_sp0 {e c : Nat} (h : (rturn .gap c).2.1 = false) : turn .sp false e [] (some c) = .cont .sp false e [] := by
  have hw : isWs c = true := by
    by_cases hw : isWs c = true
    · exact hw
    · simp only [rturn, hw] at h
      (repeat' split at h) <;> simp_all
  unfold turn
  simp [hw]
theorem turn_sp1 {e c : Nat} (h : (rturn .gap c).2.1 = true) : ∃ st' e', turn .sp false e [] (some c) = .cont st' false e' (rturn .gap c).2.2 ∧ Corr (rturn .gap c).1 st' false e' (rturn .gap c).2.2 := by
  by_cases hw : isWs c = true
  · simp [rturn, hw] at h
  · unfold turn
    simp only [rturn, hw]
    by_cases h39 : c = 39
    · subst h39; exact ⟨_, _, rfl, rfl⟩
    · by_cases h34 : c = 34
      · subst h34; exact ⟨_, _, rfl, rfl⟩
      · by_cases h92 : c = 92
        · subst h92; exact ⟨_, _, rfl, rfl, rfl⟩
        · simp only [h39, h34, h92, beq_iff_eq]
          exact ⟨.a, e, by simp [h39, h34], by simp [Corr]⟩
noncomputable def isOpen : RM → Bool
  | .gap | .word => false
  | _ => true
end Mine
end -- K2
section -- K3
set_option maxRecDepth 100000
namespace Mine
/-- what the token reader comes to -/
noncomputable def Comes (l : List Nat) (res : Option (Bool × List Nat × LS × List Nat)) (ws : List (List Nat)) (md : RM) : Prop :=
  (∃ q' w r, res = some (q', w, .sp, r) ∧ (!q' && w.isEmpty) = false ∧ ws = w :: wds .gap [] r ∧ md = modeF .gap r ∧ r.length < l.length) ∨
  (isOpen md = false ∧ ∃ q' w, res = some (q', w, .fin, []) ∧ (!q' && w.isEmpty) = false ∧ ws = [w]) ∨
  (isOpen md = true ∧ res = none)
theorem Comes.grow {l : List Nat} {c : Nat} {res : Option (Bool × List Nat × LS × List Nat)} {ws : List (List Nat)} {md : RM} (h : Comes l res ws md) : Comes (c :: l) res ws md := by
  rcases h with ⟨q', w, r, a, b, d, e, f⟩ | h | h
  · exact .inl ⟨q', w, r, a, b, d, e, Nat.lt_succ_of_lt f⟩
  · exact .inr (.inl h)
  · exact .inr (.inr h)
theorem rtk_word : ∀ (l : List Nat) (md : RM) (st : LS) (q : Bool) (e : Nat) (tok : List Nat), Corr md st q e tok → Comes l (rtk l st q e tok) (wds md tok l) (modeF md l)
  | [], md, st, q, e, tok, h => by
    cases md with
    | gap => exact h.elim
    | word =>
      obtain ⟨rfl, h⟩ := h
      refine .inr (.inl ⟨rfl, q, tok, rfl, ?_, rfl⟩)
      rcases h with h | h
      · cases tok with
        | nil => exact absurd rfl h
        | cons a b => simp
      · subst h; rfl
    | sq => have h : st = .q 39 := h; subst h; exact .inr (.inr ⟨rfl, rfl⟩)
    | dq => have h : st = .q 34 := h; subst h; exact .inr (.inr ⟨rfl, rfl⟩)
    | esc => obtain ⟨rfl, rfl⟩ := h; exact .inr (.inr ⟨rfl, rfl⟩)
    | within => obtain ⟨rfl, rfl⟩ := h; exact .inr (.inr ⟨rfl, rfl⟩)
  | c :: l, md, st, q, e, tok, h => by
    have hm : md ≠ .gap := fun z => by subst z; exact h.elim
    by_cases hg : (rturn md c).1 = .gap
    · rw [rtk_cons, turn_gap h hg, wds_gapc hm hg]
      refine .inl ⟨q, tok, l, rfl, ?_, rfl, by show modeF (rturn md c).1 l = _; rw [hg], Nat.lt_succ_self _⟩
      cases md with
      | word =>
        rcases h.2 with h | h
        · cases tok with
          | nil => exact absurd rfl h
          | cons a b => simp
        · subst h; rfl
      | gap => exact h.elim
      | sq => simp only [rturn] at hg; (repeat' split at hg) <;> simp_all
      | dq => simp only [rturn] at hg; (repeat' split at hg) <;> simp_all
      | esc => simp [rturn] at hg
      | within => simp [rturn] at hg
    · obtain ⟨st', q', e', h1, h2⟩ := turn_on h hg
      rw [rtk_cons, h1, wds_onc hm hg]
      exact (rtk_word l _ _ _ _ _ h2).grow
theorem rtk_gap : ∀ (l : List Nat) (e : Nat), (rtk l .sp false e [] = some (false, [], .fin, []) ∧ wds .gap [] l = [] ∧ modeF .gap l = .gap) ∨ Comes l (rtk l .sp false e []) (wds .gap [] l) (modeF .gap l)
  | [], e => .inl ⟨rfl, rfl, rfl⟩
  | c :: l, e => by
    cases hn : (rturn .gap c).2.1 with
    | false =>
      have hw : wds .gap [] (c :: l) = wds .gap [] l := by simp only [wds, hn]
      have hm : modeF .gap (c :: l) = modeF .gap l := by show modeF (rturn .gap c).1 l = _; rw [rturn_gap0 c hn]
      rw [rtk_cons, turn_sp0 hn, hw, hm]
      rcases rtk_gap l e with h | h
      · exact .inl h
      · exact .inr h.grow
    | true =>
      have hw : wds .gap [] (c :: l) = wds (rturn .gap c).1 (rturn .gap c).2.2 l := by simp only [wds, hn]
      obtain ⟨st', e', h1, h2⟩ := turn_sp1 (e := e) hn
      rw [rtk_cons, h1, hw]
      exact .inr (rtk_word l _ _ _ _ _ h2).grow
theorem tok_ok : ∀ (n : Nat) (l : List Nat), l.length ≤ n → isOpen (modeF .gap l) = false → TokS l .sp (wds .gap [] l) := by
  intro n
  induction n with
  | zero =>
    intro l hl ho
    have : l = [] := List.length_eq_zero_iff.mp (Nat.le_zero.mp hl)
    subst this
    exact .done (st' := .fin) (rem' := []) (q := false) (tok := []) rfl rfl
  | succ n ih =>
    intro l hl ho
    rcases rtk_gap l 32 with ⟨h1, h2, _⟩ | ⟨q', w, r, h1, h2, h3, h4, h5⟩ | ⟨_, q', w, h1, h2, h3⟩ | ⟨h1, h2⟩
    · rw [h2]; exact .done h1 rfl
    · rw [h3]; exact .more h1 h2 trivial (ih r (by omega) (by rw [← h4]; exact ho))
    · rw [h3]; exact .more h1 h2 trivial (.done (q := false) (tok := []) (st' := .fin) (rem' := []) rfl rfl)
    · rw [h1] at ho; cases ho
theorem tok_bad : ∀ (n : Nat) (l : List Nat), l.length ≤ n → isOpen (modeF .gap l) = true → TokB l .sp := by
  intro n
  induction n with
  | zero =>
    intro l hl ho
    have : l = [] := List.length_eq_zero_iff.mp (Nat.le_zero.mp hl)
    subst this
    cases ho
  | succ n ih =>
    intro l hl ho
    rcases rtk_gap l 32 with ⟨h1, h2, h3⟩ | ⟨q', w, r, h1, h2, h3, h4, h5⟩ | ⟨h0, _⟩ | ⟨h1, h2⟩
    · rw [h3] at ho; cases ho
    · exact .more h1 h2 trivial (ih r (by omega) (by rw [← h4]; exact ho))
    · rw [h0] at ho; cases ho
    · exact .bad h2
end Mine
end -- K3
section -- K4
set_option maxRecDepth 100000
namespace Mine
theorem modeF_app : ∀ (a b : List Nat) (md : RM), modeF md (a ++ b) = modeF (modeF md a) b
  | [], _, _ => rfl
  | c :: a, b, md => modeF_app a b _
theorem modeOf_eq (l : List Nat) : modeOf l = modeF .gap l := rd_mode l 0 .gap [] []
theorem lack_mode (m : RM) : isOpen (modeF m (lackOf m)) = false := by cases m <;> rfl
theorem close_eq (l : List Nat) : closeT l = l ++ lackOf (modeF .gap l) := by unfold closeT; rw [modeOf_eq]
theorem close_mode (l : List Nat) : isOpen (modeF .gap (closeT l)) = false := by
  rw [close_eq, modeF_app]; exact lack_mode _
theorem lack_alpha (m : RM) : ∀ c ∈ lackOf m, c ∈ alpha := by cases m <;> decide
theorem lack_len (m : RM) : (lackOf m).length ≤ 2 := by cases m <;> decide
theorem close_alpha {l : List Nat} (h : ∀ c ∈ l, c ∈ alpha) : ∀ c ∈ closeT l, c ∈ alpha := fun c hc => by
  rw [close_eq] at hc
  rcases List.mem_append.mp hc with hc | hc
  · exact h c hc
  · exact lack_alpha _ c hc
theorem close_len (l : List Nat) : (closeT l).length ≤ l.length + 2 := by
  rw [close_eq, List.length_append]; have := lack_len (modeF .gap l); omega
theorem begs_app : ∀ (a b : List Nat) (md : RM) (i : Nat), begs md i (a ++ b) = begs md i a ++ begs (modeF md a) (i + a.length) b
  | [], _, _, _ => by simp [begs, modeF]
  | c :: a, b, md, i => by
    have ih := begs_app a b (rturn md c).1 (i + 1)
    have e : i + 1 + a.length = i + (c :: a).length := by simp; omega
    rw [e] at ih
    simp only [List.cons_append, begs, modeF]
    cases (rturn md c).2.1 <;> simp [ih]
theorem lack_begs (m : RM) (i : Nat) : begs m i (lackOf m) = [] := by cases m <;> rfl
theorem close_begs (l : List Nat) : begs .gap 0 (closeT l) = begs .gap 0 l := by
  rw [close_eq, begs_app, lack_begs, List.append_nil]
theorem wds_len : ∀ (l : List Nat) (i : Nat), (∀ cur, (wds .gap cur l).length = (begs .gap i l).length) ∧ ∀ md cur, md ≠ .gap → (wds md cur l).length = 1 + (begs md i l).length
  | [], i => ⟨fun _ => rfl, fun md cur h => by cases md <;> first | exact absurd rfl h | rfl⟩
  | c :: l, i => by
    constructor
    · intro cur
      cases hn : (rturn .gap c).2.1 with
      | false =>
        simp only [wds, begs, hn]
        rw [rturn_gap0 c hn]
        exact (wds_len l (i + 1)).1 cur
      | true =>
        simp only [wds, begs, hn]
        rw [(wds_len l (i + 1)).2 _ _ (rturn_gap1 c hn), List.length_cons]; omega
    · intro md cur h
      have hb : begs md i (c :: l) = begs (rturn md c).1 (i + 1) l := by simp only [begs, rturn_new md c h]
      rw [hb]
      by_cases hg : (rturn md c).1 = .gap
      · rw [wds_gapc h hg, hg, List.length_cons, (wds_len l (i + 1)).1]; omega
      · rw [wds_onc h hg]; exact (wds_len l (i + 1)).2 _ _ hg
/-- how many words begin within the first k signs -/
noncomputable def kfOf (l : List Nat) (k : Nat) : Nat := (begs .gap 0 (l.take k)).length
theorem key_tok (l : List Nat) (k : Nat) : TokS (closeT (l.take k)) .sp (wds .gap [] (closeT (l.take k))) ∧ (wds .gap [] (closeT (l.take k))).length = kfOf l k :=
  ⟨tok_ok _ _ (Nat.le_refl _) (close_mode _), by rw [(wds_len _ 0).1, close_begs]; rfl⟩
theorem kf_mono (l : List Nat) {a b : Nat} (h : a ≤ b) : kfOf l a ≤ kfOf l b := by
  unfold kfOf
  have e : l.take b = l.take a ++ (l.take b).drop a := by
    have : (l.take b).take a = l.take a := by rw [List.take_take, Nat.min_eq_left h]
    rw [← this, List.take_append_drop]
  rw [e, begs_app, List.length_append]
  omega
theorem begs_range : ∀ (l : List Nat) (md : RM) (i : Nat), ∀ x ∈ begs md i l, (i : Int) < x ∧ x ≤ (i : Int) + l.length
  | [], _, _, _, h => by simp [begs] at h
  | c :: l, md, i, x, h => by
    simp only [begs] at h
    have ih := begs_range l (rturn md c).1 (i + 1)
    cases hn : (rturn md c).2.1 with
    | true =>
      rw [hn] at h
      rcases List.mem_cons.mp h with rfl | h
      · simp; omega
      · have := ih x h; simp only [List.length_cons]; omega
    | false =>
      rw [hn] at h
      have := ih x h; simp only [List.length_cons]; omega
theorem kf_iff : ∀ (l : List Nat) (md : RM) (i k j : Nat) (x : Int), (begs md i l)[j]? = some x → ((begs md i (l.take k)).length ≤ j ↔ ((i + k : Nat) : Int) < x)
  | [], _, _, _, _, _, h => by simp [begs] at h
  | c :: l, md, i, 0, j, x, h => by
    have := begs_range _ _ _ x (List.mem_of_getElem? h)
    simp only [List.take_zero, begs, List.length_nil]
    constructor
    · intro _; simpa using this.1
    · intro _; exact Nat.zero_le _
  | c :: l, md, i, k + 1, j, x, h => by
    simp only [List.take_succ_cons, begs] at h ⊢
    cases hn : (rturn md c).2.1 with
    | true =>
      rw [hn] at h
      simp only [List.length_cons]
      cases j with
      | zero =>
        simp at h
        subst h
        constructor
        · intro q; omega
        · intro q; omega
      | succ j =>
        have ih := kf_iff l (rturn md c).1 (i + 1) k j x (by simpa using h)
        rw [show i + (k + 1) = i + 1 + k from by omega, ← ih]; omega
    | false =>
      rw [hn] at h
      have ih := kf_iff l (rturn md c).1 (i + 1) k j x h
      rw [show i + (k + 1) = i + 1 + k from by omega, ← ih]
theorem found_is {l : List Nat} {j r : Nat} {x : Int} (hx : (begs .gap 0 l)[j]? = some x) (h : FoundAt (kfOf l) l.length j r) : (r : Int) = x := by
  obtain ⟨h1, h2, h3⟩ := h
  have hr := begs_range _ _ _ x (List.mem_of_getElem? hx)
  have key : ∀ k, kfOf l k ≤ j ↔ (k : Int) < x := fun k => by
    have := kf_iff l .gap 0 k j x hx
    rw [Nat.zero_add] at this
    exact this
  simp only [Int.ofNat_zero, Int.zero_add] at hr
  by_cases hlt : (r : Int) < x
  · have := (key r).mpr hlt
    have := h3 r (Nat.le_refl _) (by have := hr.2; omega)
    omega
  · by_cases hgt : x < (r : Int)
    · have hk := h2 x.toNat (by omega)
      have := (key x.toNat).mp hk
      have := hr.1
      omega
    · omega
end Mine
end -- K4
section -- K5
set_option maxRecDepth 100000
namespace Mine
/-- what stands ahead of the first word, and the pieces -/
noncomputable def pcs : RM → List Nat → List Nat × List (List Nat)
  | _, [] => ([], [])
  | md, c :: r => match (rturn md c).2.1 with
    | true => ([], (c :: (pcs (rturn md c).1 r).1) :: (pcs (rturn md c).1 r).2)
    | false => (c :: (pcs (rturn md c).1 r).1, (pcs (rturn md c).1 r).2)
theorem pcs_flat : ∀ (l : List Nat) (md : RM), (pcs md l).1 ++ (pcs md l).2.flatten = l
  | [], _ => rfl
  | c :: r, md => by
    have ih := pcs_flat r (rturn md c).1
    simp only [pcs]
    cases (rturn md c).2.1 <;> simp [ih]
inductive PcOk : List (List Nat) → Prop
  | nil : PcOk []
  | last {p} : (begs .gap 0 p).length = 1 → PcOk [p]
  | cons {p q ps} : (begs .gap 0 p).length = 1 → modeF .gap p = .gap → PcOk (q :: ps) → PcOk (p :: q :: ps)
theorem begs_shift : ∀ (l : List Nat) (md : RM) (i j : Nat), (begs md i l).length = (begs md j l).length
  | [], _, _, _ => rfl
  | c :: l, md, i, j => by
    have ih := begs_shift l (rturn md c).1 (i + 1) (j + 1)
    simp only [begs]
    cases (rturn md c).2.1 <;> simp [ih]
theorem pcs_ok : ∀ (l : List Nat) (md : RM), PcOk (pcs md l).2 ∧ ((pcs md l).2 ≠ [] → modeF md (pcs md l).1 = .gap) ∧ ∀ i, begs md i (pcs md l).1 = []
  | [], _ => ⟨.nil, fun h => absurd rfl h, fun _ => rfl⟩
  | c :: r, md => by
    obtain ⟨h1, h2, h3⟩ := pcs_ok r (rturn md c).1
    cases hn : (rturn md c).2.1 with
    | true =>
      have hm : md = .gap := Classical.byContradiction fun z => by rw [rturn_new md c z] at hn; cases hn
      subst hm
      simp only [pcs, hn]
      have hb : (begs .gap 0 (c :: (pcs (rturn .gap c).1 r).1)).length = 1 := by
        simp only [begs, hn]
        rw [h3]; rfl
      refine ⟨?_, fun _ => rfl, fun _ => rfl⟩
      cases hp : (pcs (rturn .gap c).1 r).2 with
      | nil => exact .last hb
      | cons q ps =>
        rw [hp] at h1
        exact .cons hb (h2 (by rw [hp]; exact fun z => nomatch z)) h1
    | false =>
      simp only [pcs, hn]
      refine ⟨h1, h2, fun i => ?_⟩
      simp only [begs, hn]
      exact h3 _
/-- where the pieces begin -/
noncomputable def offsN : Nat → List (List Nat) → List Nat
  | _, [] => []
  | s, p :: ps => (s + 1) :: offsN (s + p.length) ps
theorem begs_offs : ∀ (l : List Nat) (md : RM) (i : Nat), begs md i l = (offsN (i + (pcs md l).1.length) (pcs md l).2).map fun (r : Nat) => (r : Int)
  | [], _, _ => rfl
  | c :: r, md, i => by
    have ih := begs_offs r (rturn md c).1 (i + 1)
    simp only [begs, pcs]
    cases (rturn md c).2.1 with
    | true =>
      simp only [List.length_nil, Nat.add_zero, offsN, List.map_cons, ih, List.length_cons]
      rw [show i + 1 + (pcs (rturn md c).1 r).1.length = i + ((pcs (rturn md c).1 r).1.length + 1) from by omega]
      simp
    | false =>
      simp only [ih, List.length_cons]
      rw [show i + 1 + (pcs (rturn md c).1 r).1.length = i + ((pcs (rturn md c).1 r).1.length + 1) from by omega]
theorem offs_len : ∀ (ps : List (List Nat)) (s : Nat), (offsN s ps).length = ps.length
  | [], _ => rfl
  | p :: ps, s => by simp [offsN, offs_len ps]
theorem offs_get : ∀ (ps : List (List Nat)) (s j : Nat), j < ps.length → (offsN s ps)[j]? = some (s + (ps.take j).flatten.length + 1)
  | [], _, _, h => nomatch h
  | p :: ps, s, 0, _ => by simp [offsN]
  | p :: ps, s, j + 1, h => by
    simp only [offsN, List.getElem?_cons_succ]
    rw [offs_get ps _ j (by simpa using h)]
    simp; omega
theorem wds_app : ∀ (a b : List Nat), (modeF .gap a = .gap → wds .gap [] (a ++ b) = wds .gap [] a ++ wds .gap [] b) ∧ ∀ md cur, md ≠ .gap → modeF md a = .gap → wds md cur (a ++ b) = wds md cur a ++ wds .gap [] b
  | [], b => ⟨fun _ => rfl, fun md cur h z => absurd z h⟩
  | c :: a, b => by
    constructor
    · intro h
      cases hn : (rturn .gap c).2.1 with
      | false =>
        have h : modeF (rturn .gap c).1 a = .gap := h
        rw [rturn_gap0 c hn] at h
        simp only [List.cons_append, wds, hn]
        exact (wds_app a b).1 h
      | true =>
        simp only [List.cons_append, wds, hn]
        exact (wds_app a b).2 _ _ (rturn_gap1 c hn) h
    · intro md cur hm h
      have h : modeF (rturn md c).1 a = .gap := h
      by_cases hg : (rturn md c).1 = .gap
      · rw [List.cons_append, wds_gapc hm hg, wds_gapc hm hg, (wds_app a b).1 (by rw [hg] at h; exact h)]; rfl
      · rw [List.cons_append, wds_onc hm hg, wds_onc hm hg]
        exact (wds_app a b).2 _ _ hg h
theorem close_gap {p : List Nat} (h : modeF .gap p = .gap) : closeT p = p := by rw [close_eq, h]; simp [lackOf]
/-- each piece, closed, tells one word; the text, closed, tells them all -/
theorem pieces_words : ∀ {ps : List (List Nat)}, PcOk ps → wds .gap [] (closeT ps.flatten) = (ps.map fun p => wds .gap [] (closeT p)).flatten ∧ ∀ p ∈ ps, (wds .gap [] (closeT p)).length = 1 := by
  intro ps h
  have one : ∀ p : List Nat, (begs .gap 0 p).length = 1 → (wds .gap [] (closeT p)).length = 1 := fun p hp => by rw [(wds_len _ 0).1, close_begs, hp]
  induction h with
  | nil => exact ⟨rfl, fun _ h => nomatch h⟩
  | @last p hp => exact ⟨by simp, fun q hq => by rw [List.mem_singleton.mp hq]; exact one p hp⟩
  | @cons p q ps hp hm _ ih =>
    refine ⟨?_, fun x hx => ?_⟩
    · have e : closeT ((p :: q :: ps).flatten) = p ++ closeT ((q :: ps).flatten) := by
        rw [List.flatten_cons, close_eq, modeF_app, hm, close_eq, List.append_assoc]
      rw [e, (wds_app _ _).1 hm, ih.1]
      show _ = wds .gap [] (closeT p) ++ ((q :: ps).map fun p => wds .gap [] (closeT p)).flatten
      rw [close_gap hm]
    · rcases List.mem_cons.mp hx with rfl | hx
      · exact one _ hp
      · exact ih.2 x hx
end Mine
end -- K5
section -- K6
set_option maxRecDepth 100000
namespace Mine
/-- the places asked for -/
noncomputable def fsOf (l : List Nat) : List Nat := offsN (pcs .gap l).1.length (pcs .gap l).2
/-- the words of the text, closed -/
noncomputable def wordsOf (l : List Nat) : List (List Nat) := wds .gap [] (closeT l)
noncomputable def psOf (l : List Nat) : List (List Nat) := (pcs .gap l).2
theorem begs_fs (l : List Nat) : begs .gap 0 l = (fsOf l).map fun (r : Nat) => (r : Int) := by
  have := begs_offs l .gap 0
  rw [Nat.zero_add] at this; exact this
theorem fs_len (l : List Nat) : (fsOf l).length = (psOf l).length := offs_len _ _
theorem flat_split {α : Type} : ∀ (ps : List (List α)) (j : Nat) (h : j < ps.length), ps.flatten = (ps.take j).flatten ++ (ps[j] ++ (ps.drop (j + 1)).flatten)
  | [], _, h => nomatch h
  | p :: ps, 0, _ => by simp
  | p :: ps, j + 1, h => by
    have := flat_split ps j (by simpa using h)
    simp only [List.flatten_cons, List.take_succ_cons, List.getElem_cons_succ, List.drop_succ_cons, List.append_assoc]
    rw [this]
theorem cut_mid {l a p r : List Nat} (h : l = a ++ (p ++ r)) : (l.take (a.length + p.length)).drop a.length = p := by
  subst h
  rw [← List.append_assoc, List.take_append_of_le_length (by simp), List.take_of_length_le (by simp), List.drop_left']
  rfl
theorem piece_is (l : List Nat) (j : Nat) (h : j < (psOf l).length) : pieceOf l (fsOf l) j = (psOf l)[j] := by
  have hf : (fsOf l)[j]? = some ((pcs .gap l).1.length + ((psOf l).take j).flatten.length + 1) := offs_get _ _ _ h
  have hl := pcs_flat l .gap
  have hfl := flat_split (psOf l) j h
  have he : ((endsOf (fsOf l) l.length)[j]?).getD 1 - 1 = (pcs .gap l).1.length + ((psOf l).take j).flatten.length + (psOf l)[j].length := by
    unfold endsOf
    by_cases hj : j + 1 < (psOf l).length
    · have h1 : j < ((fsOf l).drop 1).length := by rw [List.length_drop, fs_len]; omega
      rw [List.getElem?_append_left h1, List.getElem?_drop, Nat.add_comm 1 j]
      have : (fsOf l)[j + 1]? = some ((pcs .gap l).1.length + ((psOf l).take (j + 1)).flatten.length + 1) := offs_get _ _ _ hj
      rw [this]
      have e : ((psOf l).take (j + 1)).flatten.length = ((psOf l).take j).flatten.length + (psOf l)[j].length := by
        have e0 : (psOf l).take (j + 1) = (psOf l).take j ++ [(psOf l)[j]] := by rw [List.take_add_one, List.getElem?_eq_getElem h]; rfl
        rw [e0, List.flatten_append, List.length_append]
        simp only [List.flatten_cons, List.flatten_nil, List.append_nil]
      simp only [Option.getD_some, e]; omega
    · have h1 : ((fsOf l).drop 1).length = j := by rw [List.length_drop, fs_len]; omega
      rw [List.getElem?_append_right (by omega), h1]
      simp only [Nat.sub_self, List.getElem?_cons_zero, Option.getD_some]
      have hd : (psOf l).drop (j + 1) = [] := List.drop_eq_nil_of_le (by omega)
      have hlen := congrArg List.length hl
      rw [List.length_append] at hlen
      have h2 := congrArg List.length hfl
      rw [hd] at h2
      simp only [List.length_append, List.flatten_nil, List.length_nil] at h2
      have h3 : (pcs .gap l).2.flatten.length = (psOf l).flatten.length := rfl
      omega
  unfold pieceOf
  rw [hf, he]
  simp only [Option.getD_some, pcut, Nat.add_sub_cancel]
  have e1 : l = ((pcs .gap l).1 ++ ((psOf l).take j).flatten) ++ ((psOf l)[j] ++ ((psOf l).drop (j + 1)).flatten) := by
    rw [List.append_assoc, ← hfl]; exact hl.symm
  have := cut_mid e1
  rw [List.length_append] at this
  exact this
theorem words_flat (l : List Nat) : wordsOf l = ((psOf l).map fun p => wds .gap [] (closeT p)).flatten ∧ ∀ p ∈ psOf l, (wds .gap [] (closeT p)).length = 1 := by
  obtain ⟨h1, h2, h3⟩ := pcs_ok l .gap
  have hp := pieces_words h1
  refine ⟨?_, hp.2⟩
  unfold wordsOf psOf
  rw [← hp.1]
  have hg : wds .gap [] (pcs .gap l).1 = [] := by
    have := (wds_len (pcs .gap l).1 0).1 []
    rw [h3] at this
    exact List.length_eq_zero_iff.mp this
  by_cases hps : (pcs .gap l).2 = []
  · have hl := pcs_flat l .gap
    rw [hps] at hl ⊢
    simp at hl
    have : (wds .gap [] (closeT l)).length = 0 := by rw [(wds_len _ 0).1, close_begs, ← hl, h3]; rfl
    rw [List.length_eq_zero_iff.mp this]; rfl
  · have hm := h2 hps
    have e : closeT l = (pcs .gap l).1 ++ closeT (pcs .gap l).2.flatten := by
      have : closeT ((pcs .gap l).1 ++ (pcs .gap l).2.flatten) = (pcs .gap l).1 ++ closeT (pcs .gap l).2.flatten := by
        rw [close_eq, modeF_app, hm, close_eq, List.append_assoc]
      rw [pcs_flat] at this; exact this
    rw [e, (wds_app _ _).1 hm, hg, List.nil_append]
theorem words_map (l : List Nat) : ((psOf l).map fun p => wds .gap [] (closeT p)) = (wordsOf l).map fun w => [w] := by
  obtain ⟨h1, h2⟩ := words_flat l
  rw [h1]
  generalize psOf l = ps at h2 ⊢
  clear h1
  induction ps with
  | nil => rfl
  | cons p ps ih =>
    have hp := h2 p (.head _)
    obtain ⟨w, hw⟩ := List.length_eq_one_iff.mp hp
    simp only [List.map_cons, List.flatten_cons, hw, List.cons_append, List.nil_append]
    exact congrArg ([w] :: ·) (ih fun q hq => h2 q (.tail _ hq))
end Mine
end -- K6
section -- K7
open PySem PySem.W PyProof.Rows PySem.SeqAt
set_option maxRecDepth 100000
namespace Mine
noncomputable def flatMV : MV → Bool
  | .int _ => true
  | .str _ => true
  | _ => false
theorem eqAt_sim {A : Around} {s : Shared} {u v : Value} {mv : MV} (h : flatMV mv = true) (hu : Sim u mv) (hv : Sim v mv) : EqAt A s u v true := by
  cases mv with
  | int i => obtain ⟨t, rfl⟩ := hu; obtain ⟨t', rfl⟩ := hv; have := EqAt.int_int (A := A) (s := s) i t i t'; simpa using this
  | str l => obtain ⟨t, rfl⟩ := hu; obtain ⟨t', rfl⟩ := hv; have := EqAt.str_str (A := A) (s := s) ⟨l.toArray⟩ t ⟨l.toArray⟩ t'; simpa using this
  | none => cases h
  | bool b => cases h
  | val v => cases h
theorem Sims.at {us : List Value} {mvs : List MV} (h : Sims us mvs) (j : Nat) (hj : j < us.length) : ∃ mv, mvs[j]? = some mv ∧ Sim us[j] mv := by
  have hj' : j < mvs.length := by rw [← h.len]; exact hj
  obtain ⟨v, h1, h2⟩ := h.get (List.getElem?_eq_getElem hj')
  rw [List.getElem?_eq_getElem hj] at h1
  cases h1
  exact ⟨_, List.getElem?_eq_getElem hj', h2⟩
section
variable {w : World} {A : Around} {E : Value → Shared → Prop} {s : Shared}
theorem all_true (n : Nat) : (List.range n).all (fun _ => true) = true := by simp
theorem sims_eq {us vs : List Value} {mvs : List MV} (hf : ∀ m ∈ mvs, flatMV m = true) (hu : Sims us mvs) (hv : Sims vs mvs) : ∀ j (h1 : j < us.toArray.size) (h2 : j < vs.toArray.size), EqAt A s us.toArray[j] vs.toArray[j] true := by
  intro j h1 h2
  obtain ⟨m1, a1, b1⟩ := hu.at j (by simpa using h1)
  obtain ⟨m2, a2, b2⟩ := hv.at j (by simpa using h2)
  rw [a1] at a2
  cases a2
  simpa using eqAt_sim (hf _ (List.mem_of_getElem? a1)) b1 b2
theorem rc_flat {a b : Addr} {us vs : List Value} {mvs : List MV} {c c' : Nat} (hU : A.units < cLine) (hf : ∀ m ∈ mvs, flatMV m = true) (ha : s.heap.get? a = some (lstObj us c)) (hb : s.heap.get? b = some (lstObj vs c')) (hu : Sims us mvs) (hv : Sims vs mvs) : RcAt A s (.ref a) (.ref b) true := by
  have := RcAt.lists (A := A) (e := fun _ => true) (isList_lst ha) (isList_lst hb) (by simp [hu.len, hv.len]) hU (sims_eq hf hu hv)
  rwa [all_true] at this
theorem eq_flat {a b : Addr} {us vs : List Value} {mvs : List MV} {c c' : Nat} {Q : Value → Shared → Prop} (hU : A.units < cLine) (hf : ∀ m ∈ mvs, flatMV m = true) (ha : s.heap.get? a = some (lstObj us c)) (hb : s.heap.get? b = some (lstObj vs c')) (hu : Sims us mvs) (hv : Sims vs mvs) (h : Q (.bool true) s) : wpAny (model PG w) A (compareOp .Eq (.ref a) (.ref b)) Q E s :=
  rc_flat hU hf ha hb hu hv PG w E Q h
theorem ne_flat {a b : Addr} {us vs : List Value} {mvs : List MV} {c c' : Nat} {Q : Value → Shared → Prop} (hU : A.units < cLine) (hf : ∀ m ∈ mvs, flatMV m = true) (ha : s.heap.get? a = some (lstObj us c)) (hb : s.heap.get? b = some (lstObj vs c')) (hu : Sims us mvs) (hv : Sims vs mvs) (h : Q (.bool false) s) : wpAny (model PG w) A (compareOp .NotEq (.ref a) (.ref b)) Q E s := by
  have := RcNeAt.lists (A := A) (e := fun _ => true) (isList_lst ha) (isList_lst hb) (by simp [hu.len, hv.len]) hU (sims_eq hf hu hv)
  rw [all_true] at this
  exact this PG w E Q h
end
end Mine
end -- K7
section -- K8
open PySem PySem.W PyProof.Rows PySem.SeqAt
set_option maxRecDepth 100000
namespace Mine
theorem ListsIn.at {bl : Objs} {vs : List Value} {wss : List (List (List Nat))} (h : ListsIn bl vs wss) : ∀ (j : Nat) (hj : j < vs.length), ∃ S us c ws, vs[j] = .ref S ∧ (S, lstObj us c) ∈ bl ∧ wss[j]? = some ws ∧ Sims us (ws.map MV.str) := by
  induction h with
  | nil => intro j hj; cases hj
  | @cons S us c ws vs wss a b _ ih =>
    intro j hj
    cases j with
    | zero => exact ⟨S, us, c, ws, rfl, a, rfl, b⟩
    | succ j => exact ih j (by simpa using hj)
theorem ListsIn.len {bl : Objs} {vs : List Value} {wss : List (List (List Nat))} (h : ListsIn bl vs wss) : vs.length = wss.length := by
  induction h with
  | nil => rfl
  | cons _ _ _ ih => simp [ih]
section
variable {w : World} {A : Around} {E : Value → Shared → Prop} {s : Shared}
theorem flat_strs (ws : List (List Nat)) : ∀ m ∈ ws.map MV.str, flatMV m = true := fun m hm => by
  obtain ⟨x, _, rfl⟩ := List.mem_map.mp hm; rfl
theorem ne_nested {a b : Addr} {vs vs' : List Value} {wss : List (List (List Nat))} {bl bl' : Objs} {c c' : Nat} {Q : Value → Shared → Prop} (hU : A.units < cLine) (hU' : A.in1.units < cLine) (ha : s.heap.get? a = some (lstObj vs c)) (hb : s.heap.get? b = some (lstObj vs' c')) (h1 : ListsIn bl vs wss) (h2 : ListsIn bl' vs' wss)
    (k1 : ∀ p ∈ bl, s.heap.get? p.1 = some p.2) (k2 : ∀ p ∈ bl', s.heap.get? p.1 = some p.2) (h : Q (.bool false) s) : wpAny (model PG w) A (compareOp .NotEq (.ref a) (.ref b)) Q E s := by
  have := RcNeAt.lists (A := A) (e := fun _ => true) (isList_lst ha) (isList_lst hb) (by simp [h1.len, h2.len]) hU (fun j q1 q2 => by
    obtain ⟨S, us, c, ws, e1, m1, w1, s1⟩ := h1.at j (by simpa using q1)
    obtain ⟨S', us', c', ws', e2, m2, w2, s2⟩ := h2.at j (by simpa using q2)
    rw [w1] at w2
    cases w2
    have e1' : vs.toArray[j] = .ref S := by simpa using e1
    have e2' : vs'.toArray[j] = .ref S' := by simpa using e2
    rw [e1', e2']
    by_cases hS : S = S'
    · subst hS; exact EqAt.same _
    · exact EqAt.of_refs hS (rc_flat hU' (flat_strs ws) (k1 _ m1) (k2 _ m2) s1 s2))
  rw [all_true] at this
  exact this PG w E Q h
end
end Mine
end -- K8
section -- H31
set_option maxRecDepth 100000
set_option maxHeartbeats 4000000
namespace Mine
noncomputable def fLaw : FuncData := fdAt 795
theorem ff_law (w : World) : FnFacts w 795 fLaw := ⟨by kernel_rfl, by kernel_rfl⟩
noncomputable abbrev lwTx : Stmt := .Assign [.Name txN (PS 838 4 838 8)] (.Call (.Name (sN "_law_text") (PS 838 11 838 20)) [.Name scN (PS 838 21 838 27)] [] (PS 838 11 838 28)) (PS 838 4 838 28)
theorem lw0 : stAt (bodyOf fLaw) 0 = lwTx := by kernel_rfl
noncomputable abbrev lwBg : Stmt := .Assign [.Name begN (PS 839 4 839 9)] (.Subscript (.Call (.Name (sN "_law_read") (PS 839 12 839 21)) [.Name txN (PS 839 22 839 26)] [] (PS 839 12 839 27)) (.Constant (.int 0) 0 (PS 839 28 839 29)) (PS 839 12 839 30)) (PS 839 4 839 30)
theorem lw1 : stAt (bodyOf fLaw) 1 = lwBg := by kernel_rfl
noncomputable abbrev lwWh : Stmt := .Assign [.Name (sN "whole") (PS 840 4 840 9)] (.Call (.Name (sN "_law_closed") (PS 840 12 840 23)) [.Name txN (PS 840 24 840 28)] [] (PS 840 12 840 29)) (PS 840 4 840 29)
theorem lw2 : stAt (bodyOf fLaw) 2 = lwWh := by kernel_rfl
noncomputable abbrev lwWd : Stmt := .Assign [.Name worN (PS 841 4 841 9)] (.Subscript (.Call (.Name (sN "_law_read") (PS 841 12 841 21)) [.Name (sN "whole") (PS 841 22 841 27)] [] (PS 841 12 841 28)) (.Constant (.int 1) 0 (PS 841 29 841 30)) (PS 841 12 841 31)) (PS 841 4 841 31)
theorem lw3 : stAt (bodyOf fLaw) 3 = lwWd := by kernel_rfl
noncomputable abbrev lwFd : Stmt := .Assign [.Name fdN (PS 842 4 842 9)] (.Call (.Name (sN "_law_found") (PS 842 12 842 22)) [.Name txN (PS 842 23 842 27), .Call (.Name (sN "len") (PS 842 29 842 32)) [.Name begN (PS 842 33 842 38)] [] (PS 842 29 842 39)] [] (PS 842 12 842 40)) (PS 842 4 842 40)
theorem lw4 : stAt (bodyOf fLaw) 4 = lwFd := by kernel_rfl
noncomputable abbrev lwSc : Scope := { kind := .function, names := [(sN ".0", .local), (sN "word", .local)], isGenerator := false, isCoroutine := false }
noncomputable abbrev lwComp : Expr := .ListComp (.List [.Name (sN "word") (PS 843 53 843 57)] (PS 843 52 843 58)) [⟨.Name (sN "word") (PS 843 63 843 67), .Name worN (PS 843 71 843 76), [], 0⟩] lwSc (PS 843 51 843 77)
noncomputable abbrev lwTold : Expr := .Call (.Name (sN "_law_told") (PS 843 25 843 34)) [.Name txN (PS 843 35 843 39), .Name fdN (PS 843 41 843 46)] [] (PS 843 25 843 47)
noncomputable abbrev lwIf : Stmt := .If (.BoolOp .Or [.Compare (.Name fdN (PS 843 7 843 12)) [.NotEq] [.Name begN (PS 843 16 843 21)] (PS 843 7 843 21), .Compare lwTold [.NotEq] [lwComp] (PS 843 25 843 77)] (PS 843 7 843 77)) [.Return (some (.Constant (.bool false) 0 (PS 844 15 844 20))) (PS 844 8 844 20)] [] (PS 843 4 844 20)
theorem lw5 : stAt (bodyOf fLaw) 5 = lwIf := by kernel_rfl
noncomputable abbrev lwSp : Expr := .Compare (.Call (.Name (sN "split") (PS 845 11 845 16)) [.Name (sN "whole") (PS 845 17 845 22)] [] (PS 845 11 845 23)) [.Eq] [.Name worN (PS 845 27 845 32)] (PS 845 11 845 32)
noncomputable abbrev lwRf : Expr := .Compare (.Call (.Name (sN "_law_refused") (PS 845 37 845 49)) [.Name txN (PS 845 50 845 54)] [] (PS 845 37 845 55)) [.Eq] [.Compare (.Name (sN "whole") (PS 845 60 845 65)) [.NotEq] [.Name txN (PS 845 69 845 73)] (PS 845 60 845 73)] (PS 845 37 845 74)
noncomputable abbrev lwRet : Stmt := .Return (some (.BoolOp .And [lwSp, lwRf] (PS 845 11 845 74))) (PS 845 4 845 74)
theorem lw6 : (bodyOf fLaw).drop 6 = [lwRet] := by kernel_rfl
end Mine
end -- H31
section -- H32
set_option maxRecDepth 100000
set_option maxHeartbeats 4000000
namespace Mine
noncomputable abbrev asgL : List Str := [txN, begN, sN "whole", worN, fdN]
noncomputable abbrev lwFace (w : World) : Face Objs := plainFace w fLaw.scope asgL noE noS noC
noncomputable abbrev RFl (s₀ : Shared) (L : Addr) (loc : Loc) (e : Objs) (s : Shared) : Prop := RF s₀ (hideAll s₀.heap ([773] ++ ([] : Objs).map (·.1))) (envAt fLaw L 795) L (LedF []) loc e s
section
variable {w : World} {mg mb : Str → Option Value} {A : Around} {s s₀ s' : Shared} {R : Result → Shared → Prop} {L : Addr} {loc : Loc} {e : Objs}
theorem fa_nil (b₀ : Heap) (h : Heap) : FrsAt [] [] b₀ h := ⟨rfl, fun _ h => nomatch h⟩
theorem law_enter {Sc : Addr} (Bs : Base w mg mb (hideAll s.heap [773])) (hroom : A.depth < recursionLimit) (hT : s.heap.get? 773 = some (tabObj #[]))
    (h : ∀ L s₁, (∀ E, FaceOk (lwFace w) PG w (A.deeper (envAt fLaw L 795)) (envAt fLaw L 795) E (RFl s L)) → RFl s L [(scN, .val (.ref Sc))] [(773, tabObj #[])] s₁ → s.heap.get? L = none → (hideAll s.heap [773]).get? L = none → fLaw.scope.kind = .function →
      wpAny (model PG w) (A.deeper (envAt fLaw L 795)) (execs (bodyOf fLaw) (envAt fLaw L 795)) (fun fl s' => R (.ok (.ret (flowV fl))) s')
        (fun e s' => wpAny (model PG w) (A.deeper (envAt fLaw L 795)) (leaving (envAt fLaw L 795) e) (fun _ s'' => R (.error e) s'') (fun e' s'' => R (.error e') s'') s') s₁) :
    codeAny (model PG w) A (.call (.ref 795) ⟨[.ref Sc], []⟩) R s := by
  have sy : (hideAll s.heap [773]).StaysIn s.heap := fun b o e => of_hideAll _ e
  refine enterF [(773, tabObj #[])] Bs sy (ff_law w) hroom (binds_run (Bs.keeps sy) 100 (binds := [scN].zip [.ref Sc]) (by kernel_rfl)) (by kernel_rfl) (fun p hp => by rw [List.mem_singleton.mp hp]; exact ⟨hT, hideAll_none _ (.head _)⟩) fun L h₁ F N stg hL hL0 hk => ?_
  have l := locRel_init (env := envAt fLaw L 795) [scN] [.ref Sc] [.val (.ref Sc)] (by decide) (.cons rfl .nil) (namesOk_mem (sc := fLaw.scope) (by kernel_rfl))
  refine wpAny_mono (h L { s with heap := h₁, toks := s.toks + ([scN].zip [Value.ref Sc]).length } (fun E => faceX (cells := []) Bs hk (by kernel_rfl) (fun _ _ _ _ h => h) (fun _ h => by cases h)) ⟨⟨rfl, rfl, rfl⟩, _, [(773, tabObj #[])], F, N, l, [], rfl, .nil, fun _ _ h => nomatch h⟩ hL hL0 hk) (fun fl s' q => ?_) fun _ _ q => q
  cases fl <;> exact q
/-- behind a call that may grow the code table -/
theorem RF.kept773 {tb tb' : Obj} (h : RFl s₀ L loc ((773, tb) :: e) s) (he : ∀ p ∈ e, p.1 ≠ 773) (k : KeptF [envAt fLaw L 795] [773] s.heap s'.heap) (hs : SameRest s s') (ht : s'.heap.get? 773 = some tb') : RFl s₀ L loc ((773, tb') :: e) s' := by
  obtain ⟨h1, m, own, F, N, l, f', rfl, up, off⟩ := h
  cases up
  have nf : ∀ b, b ≠ L → b ∉ frA [envAt fLaw L 795] := fun b h q => h (List.mem_singleton.mp q)
  refine ⟨h1.trans hs, m, (773, tb') :: e ++ [], ⟨?_, fun b o e => ?_, F.above⟩, fun p hp => ?_, l, [], rfl, .nil, fun _ _ h => nomatch h⟩
  · obtain ⟨oL, es, ep, eL, dL, r⟩ := F.ns
    obtain ⟨sl, e2⟩ := k.upto L oL eL (fun q => (N _ (.head _)).2.1 (List.mem_singleton.mp q).symm) (fun vs => by rw [dL]; exact fun q => nomatch q)
    exact ⟨_, es, ep, e2, dL, r⟩
  · refine k.old b o (F.keep b o e) (fun q => ?_) (nf b (Nat.ne_of_lt (Nat.lt_of_lt_of_le (Heap.lt_size e) F.above)))
    rw [List.mem_singleton.mp q, (N _ (.head _)).2.2] at e; cases e
  · rw [List.append_nil] at hp
    rcases List.mem_cons.mp hp with rfl | hp
    · exact ⟨ht, (N _ (.head _)).2⟩
    · have P := N p (List.mem_append_left _ (.tail _ hp))
      exact ⟨k.old _ _ P.1 (fun q => he p hp (List.mem_singleton.mp q)) (nf _ P.2.1), P.2⟩
end
end Mine
end -- H32
section -- H33
set_option maxRecDepth 100000
set_option maxHeartbeats 4000000
namespace Mine
section
variable {w : World} {mg mb : Str → Option Value} {A : Around} {s s₀ s' : Shared} {R : Result → Shared → Prop} {L : Addr} {loc : Loc} {e : Objs}
theorem law_stk (hfr : A.frames = some []) (hh : A.handled = none) (hL0 : (hideAll s₀.heap [773]).get? L = none) (hk : fLaw.scope.kind = .function) (hR : RFl s₀ L loc e s) : Stk (A.deeper (envAt fLaw L 795)) [envAt fLaw L 795] (hideAll s₀.heap [773]) s.heap :=
  RF.stkG (fp := [773]) (fa_nil _ _) rfl hk ⟨hh, hfr, fun b o e => of_hideAll _ e, trivial⟩ hL0 (fun a ha => by rw [List.mem_singleton.mp ha]; exact hideAll_none _ (.head _)) hR
/-- law, up to the words -/
theorem law_pre {Sc : Addr} {vs : List Value} {ns : List Int} {E : Value → Shared → Prop} {Q : Flow → Shared → Prop} (Bs : Base w mg mb (hideAll s₀.heap [773])) (hfr : A.frames = some []) (hh : A.handled = none) (hroom : A.depth < 700) (hL : s₀.heap.get? L = none) (hL0 : (hideAll s₀.heap [773]).get? L = none) (hk : fLaw.scope.kind = .function)
    (hSc : s₀.heap.IsList Sc vs.toArray) (hSn : Sc ≠ 773) (hn : Sims vs (ns.map MV.int)) (hlen : ns.length ≤ 5000) (ok : ∀ E, FaceOk (lwFace w) PG w (A.deeper (envAt fLaw L 795)) (envAt fLaw L 795) E (RFl s₀ L)) (hR : RFl s₀ L [(scN, .val (.ref Sc))] [(773, tabObj #[])] s)
    (h : ∀ B W bv bc wv wc s', B ≠ 773 → W ≠ 773 → Sims bv ((fsOf (textOf ns)).map fun (r : Nat) => MV.int (r : Int)) → Sims wv ((wordsOf (textOf ns)).map MV.str) →
      RFl s₀ L [(scN, .val (.ref Sc)), (txN, .str (textOf ns)), (begN, .val (.ref B)), (sN "whole", .str (closeT (textOf ns))), (worN, .val (.ref W))] [(773, tabObj #[]), (W, lstObj wv wc), (B, lstObj bv bc)] s' → wpAny (model PG w) (A.deeper (envAt fLaw L 795)) (execs ((bodyOf fLaw).drop 4) (envAt fLaw L 795)) Q E s') :
    wpAny (model PG w) (A.deeper (envAt fLaw L 795)) (execs (bodyOf fLaw) (envAt fLaw L 795)) Q E s := by
  have hal : ∀ c ∈ textOf ns, c ∈ alpha := fun c hc => by
    unfold textOf at hc
    rcases List.mem_append.mp hc with hc | hc
    · obtain ⟨x, _, rfl⟩ := List.mem_map.mp hc; exact sgn_mem x
    · exact (by decide : ∀ c ∈ [97, 32, 39, 98], c ∈ alpha) c hc
  have htl : (textOf ns).length ≤ 14 := by unfold textOf; simp; omega
  have hcl := close_len (textOf ns)
  have kSc : ∀ {loc : Loc} {e : Objs} {s : Shared}, RFl s₀ L loc e s → s.heap.IsList Sc vs.toArray := fun {loc e s} hR => by
    obtain ⟨_, m, own, F, _⟩ := hR
    obtain ⟨o, ho, r⟩ := hSc
    exact ⟨o, F.keep _ _ (hideAll_get _ ho fun q => hSn (List.mem_singleton.mp q)), r⟩
  have hScL : Sc ∉ frA [envAt fLaw L 795] := fun q => by
    have q : Sc = L := List.mem_singleton.mp q
    obtain ⟨o, ho, _⟩ := hSc
    rw [q, hL] at ho; cases ho
  show wpAny _ _ (execs ((bodyOf fLaw).drop 0) _) _ _ _
  refine st_exec _ (by kernel_rfl) lw0 (xasgN (ok _) rfl (by kernel_rfl) (wp_callG (ok _) 10 (fv := .ref 757) (mvs := [.val (.ref Sc)]) (x' := [(773, tabObj #[])]) (o := []) (by kernel_rfl) (by kernel_rfl) (fun _ h => nomatch h) hR fun us s₁ hv hR₁ => ?_))
  cases hv with | cons a b =>
  cases b
  cases a
  refine wpAny_call (text_c Bs (law_stk hfr hh hL0 hk hR₁) (by show A.depth + 1 < 800; omega) (kSc hR₁) hn hlen hScL fun v s₂ hv hs₂ hk₂ => ?_)
  refine ⟨.str (textOf ns), _, _, hv, RF.keptG (fp := [773]) (fa_nil s₀.heap _) rfl hR₁ hk₂ hs₂, fun s₃ hR₃ => ?_⟩
  refine st_exec _ (by kernel_rfl) lw1 (xasgN (ok _) rfl (by kernel_rfl) (Subscript_ (wp_callG (ok _) 10 (fv := .ref 764) (mvs := [.str (textOf ns)]) (x' := [(773, tabObj #[])]) (o := []) (by kernel_rfl) (by kernel_rfl) (fun _ h => nomatch h) hR₃ fun us s₄ hv hR₄ => ?_)))
  cases hv with | cons a b =>
  cases b
  refine wpAny_call (rd_c Bs (law_stk hfr hh hL0 hk hR₄).st (by show A.depth + 1 < 900; omega) hh a (by omega) hal fun T B W s₅ ho => ?_)
  obtain ⟨vm, cT, hT, hvm⟩ := ho.ht
  obtain ⟨bv, bc, hB, hbv⟩ := ho.hb
  refine wpAny_Constant_int (it_list (k := 0) (vs := [.ref B, .ref W, vm]) hT (by decide) (by decide) rfl ?_)
  have hR₅ := hR₄.growFG ho.keep ho.rest [(B, lstObj bv bc)] (fun p hp => by rw [List.mem_singleton.mp hp]; exact ⟨ho.b0, hB⟩)
  have hB7 : B ≠ 773 := fun q => by have := hR₄.here (.head _); dsimp only at this; rw [← q, ho.b0] at this; cases this
  refine ⟨.val (.ref B), _, _, rfl, hR₅.toks _, fun s₆ hR₆ => ?_⟩
  refine st_exec _ (by kernel_rfl) lw2 (xasgN (ok _) rfl (by kernel_rfl) (wp_callG (ok _) 10 (fv := .ref 771) (mvs := [.str (textOf ns)]) (x' := [(B, lstObj bv bc), (773, tabObj #[])]) (o := []) (by kernel_rfl) (by kernel_rfl) (fun _ h => nomatch h) hR₆ fun us s₇ hv hR₇ => ?_))
  cases hv with | cons a b =>
  cases b
  refine wpAny_call (cl_c Bs (law_stk hfr hh hL0 hk hR₇).st (by show A.depth + 1 < 890; omega) hh a (by omega) hal fun v s₈ hv hs₈ hk₈ => ?_)
  refine ⟨.str (closeT (textOf ns)), _, _, hv, hR₇.growFG hk₈ hs₈ [] (fun _ h => nomatch h), fun s₉ hR₉ => ?_⟩
  refine st_exec _ (by kernel_rfl) lw3 (xasgN (ok _) rfl (by kernel_rfl) (Subscript_ (wp_callG (ok _) 10 (fv := .ref 764) (mvs := [.str (closeT (textOf ns))]) (x' := [(B, lstObj bv bc), (773, tabObj #[])]) (o := []) (by kernel_rfl) (by kernel_rfl) (fun _ h => nomatch h) hR₉ fun us s₁₀ hv hR₁₀ => ?_)))
  cases hv with | cons a b =>
  cases b
  refine wpAny_call (rd_c Bs (law_stk hfr hh hL0 hk hR₁₀).st (by show A.depth + 1 < 900; omega) hh a (by omega) (close_alpha hal) fun T' B' W' s₁₁ ho' => ?_)
  obtain ⟨vm', cT', hT', _⟩ := ho'.ht
  obtain ⟨wv, wc, hW, hwv⟩ := ho'.hw
  refine wpAny_Constant_int (it_list (k := 1) (vs := [.ref B', .ref W', vm']) hT' (by decide) (by decide) rfl ?_)
  have hR₁₁ := hR₁₀.growFG ho'.keep ho'.rest [(W', lstObj wv wc)] (fun p hp => by rw [List.mem_singleton.mp hp]; exact ⟨ho'.w0, hW⟩)
  have hW7 : W' ≠ 773 := fun q => by have := hR₁₀.here (.tail _ (.head _)); dsimp only at this; rw [← q, ho'.w0] at this; cases this
  refine ⟨.val (.ref W'), _, _, rfl, hR₁₁.toks _, fun s₁₂ hR₁₂ => ?_⟩
  refine h B W' bv bc wv wc s₁₂ hB7 hW7 ?_ ?_ ((hR₁₂.weak (e' := [(773, tabObj #[]), (W', lstObj wv wc), (B, lstObj bv bc)]) fun p hp => ?_))
  · rw [rd_begs, List.nil_append, begs_fs, List.map_map] at hbv
    exact hbv
  · have := (rd_wds (closeT (textOf ns)) 0 .gap [] []).1 rfl
    rw [this] at hwv
    exact hwv
  · simp only [List.mem_cons, List.not_mem_nil, or_false] at hp
    rcases hp with rfl | rfl | rfl
    · exact .tail _ (.tail _ (.head _))
    · exact .head _
    · exact .tail _ (.head _)
end
end Mine
end -- H33
section -- H34
set_option maxRecDepth 100000
set_option maxHeartbeats 4000000
namespace Mine
theorem begs_le : ∀ (l : List Nat) (md : RM) (i : Nat), (begs md i l).length ≤ l.length
  | [], _, _ => Nat.le_refl _
  | c :: l, md, i => by
    have ih := begs_le l (rturn md c).1 (i + 1)
    simp only [begs]
    cases (rturn md c).2.1 <;> simp <;> omega
theorem keyOk_of {l : List Nat} (hl : l.length ≤ 5000) (ha : ∀ c ∈ l, c ∈ alpha) : KeyOk l (kfOf l) := ⟨hl, ha, fun k hk => by
  obtain ⟨h1, h2⟩ := key_tok l k
  refine ⟨_, h1, h2, ?_, close_alpha fun c hc => ha c (List.mem_of_mem_take hc), ?_⟩
  · rw [h2]
    have := begs_le (l.take k) .gap 0
    rw [List.length_take] at this
    show (begs .gap 0 (l.take k)).length ≤ _
    omega
  · have := close_len (l.take k)
    rw [List.length_take] at this
    omega⟩
theorem found_fs {l : List Nat} {rs : List Nat} (hn : rs.length = (fsOf l).length) (h : ∀ j (hj : j < rs.length), FoundAt (kfOf l) l.length j rs[j]) : rs = fsOf l := by
  apply List.ext_getElem hn
  intro j h1 h2
  have hx : (begs .gap 0 l)[j]? = some (((fsOf l)[j] : Nat) : Int) := by
    rw [begs_fs, List.getElem?_map, List.getElem?_eq_getElem h2]; rfl
  have := found_is hx (h j h1)
  omega
section
variable {w : World} {mg mb : Str → Option Value} {A : Around} {s s₀ s' : Shared} {L : Addr} {l : List Nat}
noncomputable abbrev locL (Sc B W : Addr) (l : List Nat) : Loc := [(scN, .val (.ref Sc)), (txN, .str l), (begN, .val (.ref B)), (sN "whole", .str (closeT l)), (worN, .val (.ref W))]
/-- found = _law_found(text, len(begun)) -/
theorem law_fd {Sc B W : Addr} {bv wv : List Value} {bc wc : Nat} {E : Value → Shared → Prop} {Q : Flow → Shared → Prop} (Bs : Base w mg mb (hideAll s₀.heap [773])) (hbm : (hideAll s₀.heap [773]).BuiltinsAt mg 773) (hgP : mainGlobals ≠ 773) (hfr : A.frames = some []) (hh : A.handled = none) (hroom : A.depth < 700) (hL0 : (hideAll s₀.heap [773]).get? L = none) (hk : fLaw.scope.kind = .function)
    (hlen : l.length ≤ 5000) (hal : ∀ c ∈ l, c ∈ alpha) (hB7 : B ≠ 773) (hW7 : W ≠ 773) (hbv : Sims bv ((fsOf l).map fun (r : Nat) => MV.int (r : Int))) (ok : ∀ E, FaceOk (lwFace w) PG w (A.deeper (envAt fLaw L 795)) (envAt fLaw L 795) E (RFl s₀ L))
    (hR : RFl s₀ L (locL Sc B W l) [(773, tabObj #[]), (W, lstObj wv wc), (B, lstObj bv bc)] s)
    (h : ∀ Fd fv fc ps s', Fd ≠ 773 → Sims fv ((fsOf l).map fun (r : Nat) => MV.int (r : Int)) → RFl s₀ L (locL Sc B W l ++ [(fdN, .val (.ref Fd))]) [(Fd, lstObj fv fc), (773, tabObj ps), (W, lstObj wv wc), (B, lstObj bv bc)] s' → wpAny (model PG w) (A.deeper (envAt fLaw L 795)) (execs ((bodyOf fLaw).drop 5) (envAt fLaw L 795)) Q E s') :
    wpAny (model PG w) (A.deeper (envAt fLaw L 795)) (execs ((bodyOf fLaw).drop 4) (envAt fLaw L 795)) Q E s := by
  have hbl : bv.length = (fsOf l).length := by rw [hbv.len, List.length_map]
  have hfl : (fsOf l).length ≤ l.length := by
    have := begs_le l .gap 0
    rw [begs_fs, List.length_map] at this; exact this
  refine st_exec _ (by kernel_rfl) lw4 (xasgN (ok _) rfl (by kernel_rfl) (wpAny_Call_ofName ((ok _).gname hR (fv := .ref 778) (by kernel_rfl) ?_)))
  refine callWith_K (K := KK w) Bs.X (by kernel_rfl) (Calls.spliced_cons ((ok _).name hR (v := .str l) (by kernel_rfl) fun v1 hv1 => Calls.spliced_cons (wp_call1 (ok _) (fv := .builtin "len") (by kernel_rfl) rfl hR ((ok _).name hR (v := .val (.ref B)) (by kernel_rfl) fun v2 hv2 => ?_))))
  cases hv2
  refine ⟨⟨_, _, hR⟩, len_list (isList_lst (hR.here (.tail _ (.tail _ (.head _))))) (by rw [List.size_toArray, hbl]; omega) (Calls.spliced_nil ⟨?_, ?_⟩)⟩
  · obtain ⟨_, m, own, F, _⟩ := hR
    exact Bs.X.keeps F.keep
  rw [List.size_toArray, hbl]
  have hR2 := hR.toks (s.toks + 1 + 1)
  refine wpAny_call (found_c (n := (fsOf l).length) Bs (law_stk hfr hh hL0 hk hR2) (by show A.depth + 1 < 770; omega) hv1 (hideAll_none _ (.head _)) (fun q => ?_) (hR2.here (.head _)) hbm hgP (keyOk_of hlen hal) (fun a b h1 _ => kf_mono l h1) (by omega) fun S s₃ rs fv fc h1 h2 hs hkf htb hS0 hS hfv => ?_)
  · obtain ⟨_, m, own, F, N, lr, f', rfl, up, off⟩ := hR
    exact (N _ (.head _)).2.1 (List.mem_singleton.mp q)
  obtain ⟨ps, htb⟩ := htb
  obtain rfl := found_fs h1 h2
  have hR3 := RF.kept773 hR2 (fun p hp => by
    simp only [List.mem_cons, List.not_mem_nil, or_false] at hp
    rcases hp with rfl | rfl
    · exact hW7
    · exact hB7) hkf hs htb
  have hS7 : S ≠ 773 := fun q => by have := hR2.here (.head _); dsimp only at this; rw [← q, hS0] at this; cases this
  refine ⟨.val (.ref S), locL Sc B W l, [(S, lstObj fv fc), (773, tabObj ps), (W, lstObj wv wc), (B, lstObj bv bc)], rfl, ?_, fun s₄ hR4 => h S fv fc ps s₄ hS7 hfv hR4⟩
  obtain ⟨q1, m, own, F, N, lr, f', rfl, up, off⟩ := hR3
  cases up
  obtain ⟨_, m2, own2, F2, N2, _⟩ := hR2
  refine ⟨q1, m, [(S, lstObj fv fc), (773, tabObj ps), (W, lstObj wv wc), (B, lstObj bv bc)] ++ [], F, fun p hp => ?_, lr, [], rfl, .nil, fun _ _ h => nomatch h⟩
  rw [List.append_nil] at hp
  rcases List.mem_cons.mp hp with rfl | hp
  · refine ⟨hS, fun q => ?_, ?_⟩
    · obtain ⟨oL, _, _, hoL, _⟩ := F2.ns
      have q : S = L := q
      have hoL : s.heap.get? L = some oL := hoL
      rw [← q] at hoL
      have hS0 : s.heap.get? S = none := hS0
      rw [hS0] at hoL; cases hoL
    · cases z : (hideAll s₀.heap ([773] ++ ([] : Objs).map (·.1))).get? S with
      | none => rfl
      | some o =>
        have hS0 : s.heap.get? S = none := hS0
        have := F2.keep _ _ z
        have this : s.heap.get? S = some o := this
        rw [hS0] at this; cases this
  · exact N p (List.mem_append_left _ hp)
end
end Mine
end -- H34
section -- H35
set_option maxRecDepth 100000
set_option maxHeartbeats 4000000
namespace Mine
section
variable {w : World} {mg mb : Str → Option Value} {b₀ : Heap} {A : Around} {s s₀ s' : Shared} {env : Env} {L : Addr} {frs e : Objs} {outer : List Env} {loc : Loc} {fp : List Addr}
/-- what a call has made is taken into the ledger -/
theorem RF.take (h : RF s₀ (hideAll s₀.heap (fp ++ frs.map (·.1))) env L (LedF frs) loc e s) (h' : RF s₀ (hideAll s₀.heap (fp ++ frs.map (·.1))) env L (LedF frs) loc e s') (nw : Objs) (hn : ∀ p ∈ nw, s.heap.get? p.1 = none ∧ s'.heap.get? p.1 = some p.2) : RF s₀ (hideAll s₀.heap (fp ++ frs.map (·.1))) env L (LedF frs) loc (nw ++ e) s' := by
  obtain ⟨_, m0, own0, F0, N0, l0, f0, rfl, up0, off0⟩ := h
  obtain ⟨h1, m, own, F, N, l, f', rfl, up, off⟩ := h'
  obtain ⟨oL, _, _, hL, _⟩ := F0.ns
  refine ⟨h1, m, nw ++ e ++ f', F, fun p hp => ?_, l, f', rfl, up, fun p hp => ?_⟩
  · rw [List.append_assoc] at hp
    rcases List.mem_append.mp hp with hp | hp
    · obtain ⟨a, b⟩ := hn p hp
      refine ⟨b, (fun q => by rw [q, hL] at a; cases a), ?_⟩
      cases z : (hideAll s₀.heap (fp ++ frs.map (·.1))).get? p.1 with
      | none => rfl
      | some o => rw [F0.keep _ _ z] at a; cases a
    · exact N p hp
  · rcases List.mem_append.mp hp with hp | hp
    · intro q
      rw [← up0.names] at q
      obtain ⟨x, hx, ex⟩ := List.mem_map.mp q
      have := (N0 x (List.mem_append_right _ hx)).1
      rw [ex, (hn p hp).1] at this; cases this
    · exact off p hp
end
section
variable {w : World} {mg mb : Str → Option Value} {A : Around} {s s₀ s' : Shared} {L : Addr} {l : List Nat}
noncomputable abbrev locF (Sc B W Fd : Addr) (l : List Nat) : Loc := locL Sc B W l ++ [(fdN, .val (.ref Fd))]
/-- [[word] for word in words] -/
theorem law_comp {Sc B W Fd : Addr} {wv : List Value} {wc : Nat} {e : Objs} {E : Value → Shared → Prop} {Q : Value → Shared → Prop} (Bs : Base w mg mb (hideAll s₀.heap [773])) (hfr : A.frames = some []) (hh : A.handled = none) (hL0 : (hideAll s₀.heap [773]).get? L = none) (hk : fLaw.scope.kind = .function) (ok : ∀ E, FaceOk (lwFace w) PG w (A.deeper (envAt fLaw L 795)) (envAt fLaw L 795) E (RFl s₀ L))
    {ws : List (List Nat)} (hwl : ws.length ≤ 10000) (hw : Sims wv (ws.map MV.str)) (hm : (W, lstObj wv wc) ∈ e) (hR : RFl s₀ L (locF Sc B W Fd l) e s)
    (h : ∀ D s' vs c bl, ListsIn bl vs (ws.map fun x => [x]) → SameRest s s' → KeptF [envAt fLaw L 795] [] s.heap s'.heap → s.heap.get? D = none → s'.heap.get? D = some (lstObj vs c) → (∀ p ∈ bl, s'.heap.get? p.1 = some p.2 ∧ s.heap.get? p.1 = none) → Q (.ref D) s') :
    wpAny (model PG w) (A.deeper (envAt fLaw L 795)) (eval lwComp (envAt fLaw L 795)) Q E s := by
  have sk := law_stk hfr hh hL0 hk hR
  obtain ⟨frs', fa'⟩ := frs_of sk.ff
  have Bg' : Base w mg mb (hideAll s.heap ([] ++ frs'.map (·.1))) := base_hide Bs sk fa'
  have hWf : W ∉ frs'.map (·.1) := by rw [fa'.names]; exact RF.off (fp := [773]) (fa_nil s₀.heap _) rfl hR hm
  refine comp_c (cl := []) (outer := [envAt fLaw L 795]) (b₀ := hideAll s₀.heap [773]) (mg := mg) (mb := mb) (ws.map MV.str).length (fun _ i o => o.cls = .type "list_iterator" ∧ o.data = .fields #[.ref W, .int i 0]) (fun i => ((ws.map MV.str)[i]?).getD .none) (fun h => h.get? W = some (lstObj wv wc))
    (fun i us bl => ListsIn bl us ((ws.take i).map fun x => [x])) (by kernel_rfl) (by decide) rfl (by decide) rfl (by decide) (by decide) (by kernel_rfl) (by kernel_rfl) (by rw [List.length_map]; omega) (fun I => itr_list hh hw) (by rw [List.take_zero]; exact .nil) ?_
  refine (ok _).name hR (v := .val (.ref W)) (by kernel_rfl) fun v hv => ?_
  cases hv
  refine ⟨frs', fa', Bg', fun h k => k _ _ (hideAll_get _ (hR.here hm) hWf), fun Q' hq => ?_, fun C i us bl e' s₅ E' Q' hi hb hC hR₅ hin hq => ?_, fun D s₅ us c bl hb hs₅ hk₅ hD0 hD hbl => ?_⟩
  · refine wpAny_pyIter_list (isList_lst (hR.here hm)) ?_
    exact hq _ _ _ ⟨rfl, rfl, rfl⟩ (fun b o e => Heap.get?_push_of_some _ e) (Heap.get?_none_of_le (Nat.le_refl _)) (Heap.get?_push_size _ rfl) ⟨rfl, rfl⟩ (size_le_push _ _)
  · have hi' : i < ws.length := by rw [List.length_map] at hi; exact hi
    have emv : ((ws.map MV.str)[i]?).getD .none = .str ws[i] := by
      rw [List.getElem?_map, List.getElem?_eq_getElem hi']; rfl
    have hR₅' := hR₅
    rw [emv] at hR₅'
    have ok' : ∀ E, FaceOk (plainFace w (compEnvC lwSc [] C (envAt fLaw L 795)).scope [] noE noS noC) PG w (A.deeper (envAt fLaw L 795)) (compEnvC lwSc [] C (envAt fLaw L 795)) E (RFc s frs' lwSc [] (envAt fLaw L 795) C) := fun E => faceE rfl (by kernel_rfl) (by kernel_rfl) rfl Bg' rfl (fun _ _ _ _ h => h) (fun _ h => by cases h)
    refine wpAny_List (wpAny_items_cons ((ok' _).name hR₅' (v := .str ws[i]) (by kernel_rfl) fun v1 hv1 => wpAny_items_nil ⟨by rw [sizeLine_eq]; simp, ?_⟩))
    refine hq _ { s₅ with heap := s₅.heap.push (lstObj [v1] 0) } [(s₅.heap.objs.size, lstObj [v1] 0)] ?_ (fun p hp => by rw [List.mem_singleton.mp hp]; exact Heap.get?_none_of_le (Nat.le_refl _)) ?_
    · rw [take_snoc ws hi', List.map_append]
      exact (hb.sub fun p hp => List.mem_append_right _ hp).app (c := 0) (us := [v1]) (.head _) (.cons hv1 .nil)
    · exact RF.growFG (s := s₅) (s' := { s₅ with heap := s₅.heap.push (lstObj [v1] 0) }) hR₅ (fun b o e => Heap.get?_push_of_some _ e) ⟨rfl, rfl, rfl⟩ [(s₅.heap.objs.size, lstObj [v1] 0)] (fun p hp => by rw [List.mem_singleton.mp hp]; exact ⟨Heap.get?_none_of_le (Nat.le_refl _), Heap.get?_push_size _ rfl⟩)
  · rw [List.length_map, List.take_length] at hb
    exact h D s₅ us c bl hb hs₅ hk₅ hD0 hD hbl
end
end Mine
end -- H35
section -- H36
set_option maxRecDepth 100000
set_option maxHeartbeats 4000000
namespace Mine
theorem fs_range {l : List Nat} (hl : l.length ≤ 5000) : ∀ r ∈ fsOf l, 1 ≤ r ∧ r ≤ 6000 := fun r hr => by
  have hm : ((r : Nat) : Int) ∈ begs .gap 0 l := by rw [begs_fs]; exact List.mem_map_of_mem hr
  have := begs_range l .gap 0 _ hm
  omega
theorem fs_le (l : List Nat) : (fsOf l).length ≤ l.length := by
  have := begs_le l .gap 0
  rw [begs_fs, List.length_map] at this; exact this
theorem piece_mem {l fs : List Nat} {i : Nat} : ∀ c ∈ pieceOf l fs i, c ∈ l := fun c hc => by
  unfold pieceOf pcut at hc
  exact List.mem_of_mem_take (List.mem_of_mem_drop hc)
theorem piece_len {l fs : List Nat} {i : Nat} : (pieceOf l fs i).length ≤ l.length := by
  unfold pieceOf pcut
  rw [List.length_drop, List.length_take]; omega
theorem ps_at {l : List Nat} (hl : l.length ≤ 5000) (hal : ∀ c ∈ l, c ∈ alpha) : ∀ i, i < (fsOf l).length →
    TokS (closeT (pieceOf l (fsOf l) i)) .sp ((((psOf l).map fun p => wds .gap [] (closeT p))[i]?).getD []) ∧ (∀ c ∈ closeT (pieceOf l (fsOf l) i), c ∈ alpha) ∧ (closeT (pieceOf l (fsOf l) i)).length ≤ 10000 := fun i hi => by
  refine ⟨?_, close_alpha fun c hc => hal c (piece_mem c hc), ?_⟩
  · rw [fs_len] at hi
    rw [piece_is l i hi, List.getElem?_map, List.getElem?_eq_getElem hi]
    exact tok_ok _ _ (Nat.le_refl _) (close_mode _)
  · have := close_len (pieceOf l (fsOf l) i)
    have := piece_len (l := l) (fs := fsOf l) (i := i)
    omega
theorem flat_ints (fs : List Nat) : ∀ m ∈ fs.map (fun (r : Nat) => MV.int (r : Int)), flatMV m = true := fun m hm => by
  obtain ⟨x, _, rfl⟩ := List.mem_map.mp hm; rfl
theorem words_len (l : List Nat) : (wordsOf l).length = (fsOf l).length := by
  unfold wordsOf
  rw [(wds_len _ 0).1, close_begs, begs_fs, List.length_map]
section
variable {w : World} {mg mb : Str → Option Value} {A : Around} {s s₀ s' : Shared} {L : Addr} {l : List Nat}
/-- if found != begun or _law_told(text, found) != [[word] for word in words] -/
theorem law_if {Sc B W Fd : Addr} {bv wv fv : List Value} {bc wc fc : Nat} {ps : Array Value} {E : Value → Shared → Prop} {Q : Flow → Shared → Prop} (Bs : Base w mg mb (hideAll s₀.heap [773])) (hfr : A.frames = some []) (hh : A.handled = none) (hroom : A.depth < 700) (hU : A.units < 9000) (hL0 : (hideAll s₀.heap [773]).get? L = none) (hk : fLaw.scope.kind = .function)
    (hlen : l.length ≤ 5000) (hal : ∀ c ∈ l, c ∈ alpha) (hbv : Sims bv ((fsOf l).map fun (r : Nat) => MV.int (r : Int))) (hfv : Sims fv ((fsOf l).map fun (r : Nat) => MV.int (r : Int))) (hwv : Sims wv ((wordsOf l).map MV.str)) (ok : ∀ E, FaceOk (lwFace w) PG w (A.deeper (envAt fLaw L 795)) (envAt fLaw L 795) E (RFl s₀ L))
    (hR : RFl s₀ L (locF Sc B W Fd l) [(Fd, lstObj fv fc), (773, tabObj ps), (W, lstObj wv wc), (B, lstObj bv bc)] s)
    (h : ∀ s', RFl s₀ L (locF Sc B W Fd l) [(Fd, lstObj fv fc), (773, tabObj ps), (W, lstObj wv wc), (B, lstObj bv bc)] s' → wpAny (model PG w) (A.deeper (envAt fLaw L 795)) (execs ((bodyOf fLaw).drop 6) (envAt fLaw L 795)) Q E s') :
    wpAny (model PG w) (A.deeper (envAt fLaw L 795)) (execs ((bodyOf fLaw).drop 5) (envAt fLaw L 795)) Q E s := by
  have hU1 : (A.deeper (envAt fLaw L 795)).units < cLine := by show A.units + 3 < 9900; omega
  have hU2 : (A.deeper (envAt fLaw L 795)).in1.units < cLine := by show A.units + 3 + 1 < 9900; omega
  have hfl := fs_le l
  refine st_exec _ (by kernel_rfl) lw5 (wpAny_If (wpAny_isTrue_BoolOp (wpAny_allTrue_Or_cons (wpAny_isTrue_Compare1 ((ok _).name hR (v := .val (.ref Fd)) (by kernel_rfl) fun v1 hv1 => (ok _).name hR (v := .val (.ref B)) (by kernel_rfl) fun v2 hv2 => ?_)))))
  cases hv1
  cases hv2
  refine ne_flat hU1 (flat_ints _) (hR.here (.head _)) (hR.here (.tail _ (.tail _ (.tail _ (.head _))))) hfv hbv (wpAny_truthy_bool (ite_neg Bool.false_ne_true ?_))
  refine wpAny_allTrue_Or_cons (wpAny_isTrue_Compare1 (wp_callG (ok _) 10 (fv := .ref 783) (mvs := [.str l, .val (.ref Fd)]) (x' := [(Fd, lstObj fv fc), (773, tabObj ps), (W, lstObj wv wc), (B, lstObj bv bc)]) (o := []) (by kernel_rfl) (by kernel_rfl) (fun _ h => nomatch h) hR fun us s₁ hv hR₁ => ?_))
  cases hv with | cons a b =>
  cases b with | cons c d =>
  cases d
  cases c
  refine wpAny_call (told_c (wss := (psOf l).map fun p => wds .gap [] (closeT p)) Bs (law_stk hfr hh hL0 hk hR₁) (by show A.depth + 1 < 780; omega) a (hR₁.here (.head _)) hfv (RF.off (fp := [773]) (fa_nil s₀.heap _) rfl hR₁ (.head _)) hlen hal (by omega) (fs_range hlen) (by rw [List.length_map, fs_len]) (ps_at hlen hal) fun D s₂ vs c bl hs₂ hk₂ hD0 hD hbl hin => ?_)
  have hR₂ := RF.keptG (fp := [773]) (fa_nil s₀.heap _) rfl hR₁ hk₂ hs₂
  have hR₃ := RF.take (fp := [773]) hR₁ hR₂ ((D, lstObj vs c) :: bl) (fun p hp => by
    rcases List.mem_cons.mp hp with rfl | hp
    · exact ⟨hD0, hD⟩
    · exact ⟨(hin p hp).2, (hin p hp).1⟩)
  refine law_comp Bs hfr hh hL0 hk ok (by rw [words_len]; omega) hwv (wc := wc) (List.mem_append_right _ (.tail _ (.tail _ (.head _)))) hR₃ fun D2 s₄ vs2 c2 bl2 hbl2 hs₄ hk₄ hD20 hD2 hin2 => ?_
  have hR₄ := RF.keptG (fp := [773]) (fa_nil s₀.heap _) rfl hR₃ hk₄ hs₄
  rw [words_map] at hbl
  refine ne_nested hU1 hU2 (hR₄.here (List.mem_append_left _ (.head _))) hD2 hbl hbl2 (fun p hp => hR₄.here (List.mem_append_left _ (.tail _ hp))) (fun p hp => (hin2 p hp).1) (wpAny_truthy_bool (ite_neg Bool.false_ne_true ?_))
  refine wpAny_allTrue_Or_nil (ite_neg Bool.false_ne_true (wpAny_execs_nil (h s₄ (hR₄.weak fun p hp => List.mem_append_right _ hp))))
end
end Mine
end -- H36
section -- H37
set_option maxRecDepth 100000
set_option maxHeartbeats 4000000
namespace Mine
theorem close_ne (l : List Nat) : (closeT l != l) = isOpen (modeF .gap l) := by
  rw [close_eq]
  cases modeF .gap l <;> simp [lackOf, isOpen]
section
variable {w : World} {mg mb : Str → Option Value} {A : Around} {s s₀ s' : Shared} {L : Addr} {l : List Nat}
/-- return split(whole) == words and _law_refused(text) == (whole != text) -/
theorem law_ret {Sc B W Fd : Addr} {wv : List Value} {wc : Nat} {e : Objs} {E : Value → Shared → Prop} {Q : Flow → Shared → Prop} (Bs : Base w mg mb (hideAll s₀.heap [773])) (hfr : A.frames = some []) (hh : A.handled = none) (hroom : A.depth < 700) (hU : A.units < 9000) (hL0 : (hideAll s₀.heap [773]).get? L = none) (hk : fLaw.scope.kind = .function)
    (hlen : l.length ≤ 5000) (hal : ∀ c ∈ l, c ∈ alpha) (hwv : Sims wv ((wordsOf l).map MV.str)) (ok : ∀ E, FaceOk (lwFace w) PG w (A.deeper (envAt fLaw L 795)) (envAt fLaw L 795) E (RFl s₀ L))
    (hm : (W, lstObj wv wc) ∈ e) (hR : RFl s₀ L (locF Sc B W Fd l) e s) (h : ∀ s', RFl s₀ L (locF Sc B W Fd l) e s' → Q (.ret (.bool true)) s') :
    wpAny (model PG w) (A.deeper (envAt fLaw L 795)) (execs ((bodyOf fLaw).drop 6) (envAt fLaw L 795)) Q E s := by
  have hU1 : (A.deeper (envAt fLaw L 795)).units < cLine := by show A.units + 3 < 9900; omega
  have hcl := close_len l
  rw [lw6]
  refine wpAny_execs_cons (wpAny_Return_some (BoolOp_and (wpAny_Compare1 (wp_callG (ok _) 10 (fv := .ref 752) (mvs := [.str (closeT l)]) (x' := e) (o := []) (by kernel_rfl) (by kernel_rfl) (fun _ h => nomatch h) hR fun us s₁ hv hR₁ => ?_))))
  cases hv with | cons a b =>
  cases b
  refine wpAny_call (split_ok Bs (law_stk hfr hh hL0 hk hR₁) (by show A.depth + 1 < 820; omega) a (by omega) (close_alpha hal) (tok_ok _ _ (Nat.le_refl _) (close_mode l)) fun S s₂ us c hs₂ hk₂ hS0 hus hS => ?_)
  have hR₂ := RF.keptG (fp := [773]) (fa_nil s₀.heap _) rfl hR₁ hk₂ hs₂
  refine (ok _).name hR₂ (v := .val (.ref W)) (by kernel_rfl) fun v hv => ?_
  cases hv
  refine eq_flat hU1 (flat_strs _) hS (hR₂.here hm) hus hwv (wpAny_truthy_bool (ite_pos rfl (BoolOp_one (wpAny_Compare1 (wp_callG (ok _) 10 (fv := .ref 790) (mvs := [.str l]) (x' := e) (o := []) (by kernel_rfl) (by kernel_rfl) (fun _ h => nomatch h) hR₂ fun us s₃ hv hR₃ => ?_)))))
  cases hv with | cons a b =>
  cases b
  refine wpAny_call (refused_c (b := isOpen (modeF .gap l)) Bs (law_stk hfr hh hL0 hk hR₃) (by show A.depth + 1 < 800; omega) a (by omega) hal ?_ fun s₄ hs₄ hk₄ => ?_)
  · cases hb : isOpen (modeF .gap l) with
    | true => exact tok_bad _ _ (Nat.le_refl _) hb
    | false => exact ⟨_, tok_ok _ _ (Nat.le_refl _) hb⟩
  have hR₄ := RF.keptG (fp := [773]) (fa_nil s₀.heap _) rfl hR₃ hk₄ hs₄
  refine wpAny_Compare1 ((ok _).name hR₄ (v := .str (closeT l)) (by kernel_rfl) fun v1 hv1 => (ok _).name hR₄ (v := .str l) (by kernel_rfl) fun v2 hv2 => wp_cmp (r := .bool (closeT l != l)) rfl hv1 hv2 fun v' hv' => ?_)
  cases hv'
  rw [close_ne]
  refine PyProof.Rows.eq_bool ?_
  rw [beq_self_eq_true]
  exact h _ hR₄
end
end Mine
end -- H37
section -- H38
set_option maxRecDepth 100000
set_option maxHeartbeats 4000000
namespace Mine
theorem text_alpha (ns : List Int) : ∀ c ∈ textOf ns, c ∈ alpha := fun c hc => by
  unfold textOf at hc
  rcases List.mem_append.mp hc with hc | hc
  · obtain ⟨x, _, rfl⟩ := List.mem_map.mp hc; exact sgn_mem x
  · exact (by decide : ∀ c ∈ [97, 32, 39, 98], c ∈ alpha) c hc
theorem text_len (ns : List Int) : (textOf ns).length ≤ 14 := by unfold textOf; simp; omega
section
variable {w : World} {mg mb : Str → Option Value} {A : Around} {s : Shared} {R : Result → Shared → Prop}
/-- law, whole -/
theorem law_c {Sc : Addr} {vs : List Value} {ns : List Int} (Bs : Base w mg mb (hideAll s.heap [773])) (hbm : (hideAll s.heap [773]).BuiltinsAt mg 773) (hgP : mainGlobals ≠ 773) (hfr : A.frames = some []) (hh : A.handled = none) (hroom : A.depth < 700) (hU : A.units < 9000)
    (hT : s.heap.get? 773 = some (tabObj #[])) (hSc : s.heap.IsList Sc vs.toArray) (hSn : Sc ≠ 773) (hn : Sims vs (ns.map MV.int)) (hlen : ns.length ≤ 5000)
    (post : ∀ s', SameRest s s' → (∀ b o, (hideAll s.heap [773]).get? b = some o → s'.heap.get? b = some o) → (∃ ps, s'.heap.get? 773 = some (tabObj ps)) → R (.ok (.ret (.bool true))) s') :
    codeAny (model PG w) A (.call (.ref 795) ⟨[.ref Sc], []⟩) R s := by
  have hrl : recursionLimit = 1000 := rfl
  have hal := text_alpha ns
  have htl : (textOf ns).length ≤ 5000 := Nat.le_trans (text_len ns) (by omega)
  refine law_enter Bs (by omega) hT fun L s₁ ok hR hL hL0 hk => ?_
  refine law_pre Bs hfr hh hroom hL hL0 hk hSc hSn hn hlen ok hR fun B W bv bc wv wc s₂ hB7 hW7 hbv hwv hR₂ => ?_
  refine law_fd Bs hbm hgP hfr hh hroom hL0 hk htl hal hB7 hW7 hbv ok hR₂ fun Fd fv fc ps s₃ hF7 hfv hR₃ => ?_
  refine law_if Bs hfr hh hroom hU hL0 hk htl hal hbv hfv hwv ok hR₃ fun s₄ hR₄ => ?_
  refine law_ret Bs hfr hh hroom hU hL0 hk htl hal hwv ok (.tail _ (.tail _ (.head _))) hR₄ fun s₅ hR₅ => ?_
  obtain ⟨q1, m, own, F, N, lr, f', rfl, up, off⟩ := hR₅
  exact post s₅ q1 (fun b o e => F.keep b o e) ⟨ps, (N (773, tabObj ps) (.tail _ (.head _))).1⟩
end
end Mine
end -- H38
section -- FIN
set_option maxRecDepth 100000
set_option maxHeartbeats 4000000
namespace Mine
theorem tabs_at {w : World} {h : Heap} (X : (KK w).In h) (hT : h.get? 773 = some (tabObj #[])) : TabsAt [(777, 773)] h := fun q hq => by
  rw [List.mem_singleton.mp hq]
  exact ⟨codeHd_of_K X (by kernel_rfl), hT⟩
theorem base_of {p : Program} {loose : List Str} {mean : ExcName → Option Value} {mg mb : Str → Option Value} {w : World} {h : Heap} (T : Top p loose mean mg mb h) (X : (KK w).In h) (hT : TabsAt [(777, 773)] h) : Base w mg mb (hideAll h [773]) ∧ (hideAll h [773]).BuiltinsAt mg 773 := by
  have T' := ghost_top hT T
  refine ⟨⟨ghost_K hT X (by kernel_rfl), T'.g, T'.b, T.builtins, T'.nolimit⟩, ?_⟩
  obtain ⟨bm, ob, a1, a2, a3, a4, a5, a6⟩ := T'.bmain
  refine ⟨bm, ob, a1, a2, fun q => ?_, fun q => ?_, a3, a4, a5, a6⟩
  · obtain ⟨o, es, ep, e, hd, _⟩ := T'.g
    rw [q] at a3
    have a3 : (hideAll h [773]).get? mainGlobals = some ob := a3
    have e : (hideAll h [773]).get? mainGlobals = some o := e
    rw [a3] at e
    cases e
    rw [a6] at hd; cases hd
  · have a3 : (hideAll h [773]).get? bm = some ob := a3
    rw [q, hideAll_none _ (.head _)] at a3; cases a3
end Mine
end -- FIN
set_option maxRecDepth 100000 in
set_option maxHeartbeats 8000000 in
theorem PySem.Challenge.cw_mr0351_01_holds : PySem.Challenge.rw_mr0351_01.Holds := by
  refine Mine.head ?_
  intro w s₀ s₁ mg mb G Y fa o pm cd doc dV kV ho hd' hcd hD hmg hg args vals as hpre hlay hrd hwl hlo
  have X := km_in_of Y
  have hT := Mine.tabs_at X (km_tabs_of Y 773 (.head _))
  have T := G.T
  obtain ⟨Bs, hbm⟩ := Mine.base_of T X hT
  have hfa : mg (Str.ofString "law") = some (.ref 795) := mg_of X T.g (by kernel_rfl)
  have hmg : mg (Str.ofString "law") = some (.ref fa) := by
    have e : Mine.dK.1.name = Str.ofString "law" := by kernel_rfl
    rw [← e]; exact hmg
  rw [hfa] at hmg
  cases hmg
  clear hmg G Y ho hd' hcd hD
  wrow_args hpre hlay hrd hwl hlo
  rename_i ns hs hlay0 hL1 hr1 hl2 w4 w3 Sc vs w0 hL ra w1 r0 hI hr hc1 hc2
  have h773 := (hT _ (.head _)).2
  refine enter_call (kn_post hT (fun _ _ => rfl) (Mine.law_c Bs hbm (by decide) rfl rfl (by decide) (by decide) h773 hL (fun q => ?_) (Mine.sims_ints hI) (by omega) fun s' hs hk hp => ?_))
  · obtain ⟨o', ho', hc', _⟩ := hL
    rw [q, h773] at ho'
    cases ho'
    cases hc'
  · exact ⟨⟨.inl ⟨.bool true, .bool true, [], rfl, fun _ => rfl, .bool true, by wrow_post, fun _ => ⟨.nil, fun _ h => nomatch h⟩⟩, hk, hs.os, hs.gens.trans hg⟩, hp, trivial⟩
