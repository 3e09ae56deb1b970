import PyProof.Rows.All
import Wide.All
import OpenK.AllK
import Wide.FinOn
import PySem.Challenge.RW_op0228_01
open PySem PySem.W PyProof.Rows
set_option Elab.async false
set_option linter.unusedVariables false
set_option maxRecDepth 100000
set_option maxHeartbeats 8000000
namespace Mine
theorem said : PySem.Challenge.rw_op0228_01.wellSaid = true := by
  rw [PySem.W.Fast.te9446332074065402090]
  kernel_rfl
end Mine
namespace Mine
noncomputable section
noncomputable abbrev pw : Program := PySem.Challenge.pw_op0228_01
noncomputable abbrev S (x : String) : Str := Str.ofString x
noncomputable def en (P : Params) (k : String) (t : Tok) (v : Value) : DictEntry := ⟨PyData.keyHash P (S k), .str (S k) t, v⟩
noncomputable def topSt (i : Nat) : Stmt := pw.main.body.getD i default
noncomputable def clsSt (i j : Nat) : Stmt := match topSt i with
  | .ClassDef _ _ _ b _ _ _ _ _ _ _ => b.getD j default
  | _ => default
noncomputable def fd (st : Stmt) (qual : String) (dV pm cd : Value) : FuncData := match st with
  | .FunctionDef name args body _ _ _ scope _ _ _ => fnOf name (S qual) args body scope dV .none .none pm none cd .none
  | _ => default
noncomputable def o2 (P : Params) : Obj := ⟨.none, none, (.dict [en P "\x69mport.loaded._collections" 185 (.bool true), en P "class._frozen_importlib.BuiltinImporter" 187 (.ref 15), en P "watched.\x69mport" 208 (.ref 19), en P "class._frozen_importlib.ModuleSpec" 218 (.ref 23), en P "sys.modules.booked-epoch" 247 (.int (3) 0), en P "sys.modules.landed._collections" 248 (.bool true), en P "\x69mport.later-laid._collections" 263 (.bool true), en P "watched.library" 265 (.ref 28), en P "watched.library-objects" 0 (.str (S "\x0d") 0), en P "watched.library-deep._collections" 266 (.str (S "\x04\x00\x00\x0c\x04\x00\x00\x0c\x04\x00\x00\x03\x04\x00\x00\x0c\x08\x04dict\x02") 0), en P "type.__subclasses__.OSError.0" 322 (.int (63) 0), en P "type.__subclasses__.OSError.n" 323 (.int (1) 0)].toArray 12), #[]⟩
noncomputable def o3 (P : Params) : Obj := ⟨(.type "dict"), none, (.dict [en P "__name__" 165 (.str (S "law_op0228_01") 1215), en P "__doc__" 166 .none, en P "__package__" 167 .none, en P "__loader__" 168 (.builtin "__main__.__loader__#opaque"), en P "__spec__" 169 .none, en P "__annotations__" 170 (.ref 6), en P "__builtins__" 171 (.ref 4), en P "__file__" 173 (.str (S "/claim/cut.py") 172), en P "__cached__" 174 .none, en P "deque" 272 (.type "collections.deque"), en P "_wall" 285 (.ref 39), en P "_whence" 295 (.ref 46), en P "_index" 303 (.ref 53), en P "UnsupportedOperation" 325 (.ref 63), en P "IOBase" 357 (.ref 83), en P "BufferedIOBase" 375 (.ref 98), en P "TextIOBase" 393 (.ref 110), en P "BytesIO" 655 (.ref 340), en P "StringIO" 942 (.ref 587), en P "_kind" 953 (.ref 596), en P "_fspath" 962 (.ref 603), en P "_check_arg_types" 972 (.ref 610), en P "isabs" 979 (.ref 617), en P "join" 990 (.ref 624), en P "dirname" 1000 (.ref 631), en P "shlex" 1141 (.ref 722), en P "heappush" 1151 (.ref 733), en P "heappop" 1160 (.ref 740), en P "heapreplace" 1169 (.ref 747), en P "heappushpop" 1177 (.ref 754), en P "_siftdown" 1189 (.ref 761), en P "_siftup" 1202 (.ref 768), en P "Int2AP" 1214 (.ref 775), en P "_law_roles" 1222 (.ref 780), en P "_law_read" 1231 (.ref 787), en P "_law_inside" 1243 (.ref 794), en P "_law_spelled" 1249 (.ref 799), en P "_law_laid" 1255 (.ref 804), en P "_law_heard" 1261 (.ref 809), en P "_law_called" 1270 (.ref 816), en P "_law_plain" 1280 (.ref 823), en P "_law_right" 1286 (.ref 828), en P "_law_run" 1302 (.ref 835), en P "law" 1310 (.ref 842)].toArray 44), #[]⟩
noncomputable def o52 (P : Params) : Obj := ⟨(.type "code"), none, (.fields #[(.str (S "_index") 296), (.str (S "_index") 297), (.str (S "/claim/cut.py") 298), (.int (11) 0), (.int (2) 0), (.int (0) 0), (.int (0) 0), (.int (3) 0), (.ref 47), (.bool true), (.int (273) 0), (.ref 48), .none, (.ref 49), (.ref 50), (.ref 51), (.int (301) 0), (.int (11) 0), (.str (S "/claim/cut.py") 302)]), #[]⟩
noncomputable def o53 (P : Params) : Obj := ⟨(.type "function"), none, (.func (fd (topSt 4) "_index" .none (.str (S "io") 286) (.ref 52))), #[]⟩
noncomputable def o79 (P : Params) : Obj := ⟨(.type "code"), none, (.fields #[(.str (S "__new__") 340), (.str (S "IOBase.__new__") 341), (.str (S "/claim/cut.py") 342), (.int (23) 0), (.int (1) 0), (.int (1) 0), (.int (0) 0), (.int (15) 0), (.ref 74), (.bool true), (.int (273) 0), (.ref 75), .none, (.ref 76), (.ref 77), (.ref 78), (.int (346) 0), (.int (23) 0), (.str (S "/claim/cut.py") 347)]), #[]⟩
noncomputable def o80 (P : Params) : Obj := ⟨(.type "function"), none, (.func (fd (clsSt 6 1) "IOBase.__new__" .none (.str (S "io") 286) (.ref 79))), #[]⟩
noncomputable def o82 (P : Params) : Obj := ⟨(.type "dict"), none, (.dict [en P "__module__" 333 (.str (S "io") 338), en P "__firstlineno__" 337 (.int (20) 336), en P "__new__" 348 (.ref 84), en P "__static_attributes__" 349 (.ref 81), en P "__dict__" 352 (.ref 85), en P "__weakref__" 354 (.ref 86), en P "__doc__" 355 .none].toArray 4), #[]⟩
noncomputable def o83 (P : Params) : Obj := ⟨(.type "type"), none, (.cls { name := (S "IOBase"), bases := [(.type "object")], mro := [(.ref 83), (.type "object")], ns := 82, qualname := (S "IOBase"), hasDict := true, slotNames := [], subclasses := [(.ref 98), (.ref 110)], abstract := false, collection := none, hasDel := false }), #[none, none, some (.str (S "IOBase") 326), some (.str (S "IOBase") 334), some .none, some (.bool true)]⟩
noncomputable def o84 (P : Params) : Obj := ⟨(.type "staticmethod"), none, (.fields #[(.ref 80)]), #[]⟩
noncomputable def o85 (P : Params) : Obj := ⟨(.type "getset_descriptor"), none, (.fields #[(.str (S "__dict__") 351), (.ref 83), (.builtin "function.__dict__"), (.builtin "function.__dict__#set")]), #[]⟩
noncomputable def o86 (P : Params) : Obj := ⟨(.type "getset_descriptor"), none, (.fields #[(.str (S "__weakref__") 353), (.ref 83), (.builtin "ExceptionGroup.__weakref__"), .none]), #[]⟩
noncomputable def o109 (P : Params) : Obj := ⟨(.type "dict"), none, (.dict [en P "__module__" 383 (.str (S "io") 388), en P "__firstlineno__" 387 (.int (29) 386), en P "__static_attributes__" 390 (.ref 108), en P "__doc__" 391 .none].toArray 2), #[]⟩
noncomputable def o110 (P : Params) : Obj := ⟨(.type "type"), none, (.cls { name := (S "TextIOBase"), bases := [(.ref 83)], mro := [(.ref 110), (.ref 83), (.type "object")], ns := 109, qualname := (S "TextIOBase"), hasDict := true, slotNames := [], subclasses := [(.ref 587)], abstract := false, collection := none, hasDel := false }), #[some (.ref 101), none, some (.str (S "TextIOBase") 376), some (.str (S "TextIOBase") 384), some .none, some (.bool true)]⟩
noncomputable def o340 (P : Params) : Obj := ⟨(.type "type"), none, (.cls { name := (S "BytesIO"), bases := [(.ref 98)], mro := [(.ref 340), (.ref 98), (.ref 83), (.type "object")], ns := 339, qualname := (S "BytesIO"), hasDict := true, slotNames := [], subclasses := [], abstract := false, collection := none, hasDel := false }), #[some (.ref 113), none, some (.str (S "BytesIO") 394), some (.str (S "BytesIO") 402), some .none, some (.bool true)]⟩
noncomputable def o350 (P : Params) : Obj := ⟨(.type "tuple"), none, (.seq #[(.str (S "") 670), (.str (S "\n") 671)] 0), #[]⟩
noncomputable def o356 (P : Params) : Obj := ⟨(.type "code"), none, (.fields #[(.str (S "__init__") 672), (.str (S "StringIO.__init__") 673), (.str (S "/claim/cut.py") 674), (.int (204) 0), (.int (3) 0), (.int (0) 0), (.int (0) 0), (.int (3) 0), (.ref 351), (.bool true), (.int (273) 0), (.ref 352), .none, (.ref 353), (.ref 354), (.ref 355), (.int (678) 0), (.int (204) 0), (.str (S "/claim/cut.py") 679)]), #[]⟩
noncomputable def o357 (P : Params) : Obj := ⟨(.type "function"), none, (.func (fd (clsSt 10 1) "StringIO.__init__" (.ref 350) (.str (S "io") 286) (.ref 356))), #[]⟩
noncomputable def o363 (P : Params) : Obj := ⟨(.type "code"), none, (.fields #[(.str (S "__translated") 681), (.str (S "StringIO.__translated") 682), (.str (S "/claim/cut.py") 683), (.int (217) 0), (.int (2) 0), (.int (0) 0), (.int (0) 0), (.int (3) 0), (.ref 358), (.bool true), (.int (273) 0), (.ref 359), .none, (.ref 360), (.ref 361), (.ref 362), (.int (687) 0), (.int (217) 0), (.str (S "/claim/cut.py") 688)]), #[]⟩
noncomputable def o364 (P : Params) : Obj := ⟨(.type "function"), none, (.func (fd (clsSt 10 2) "StringIO.__translated" .none (.str (S "io") 286) (.ref 363))), #[]⟩
noncomputable def o370 (P : Params) : Obj := ⟨(.type "code"), none, (.fields #[(.str (S "__check") 690), (.str (S "StringIO.__check") 691), (.str (S "/claim/cut.py") 692), (.int (225) 0), (.int (1) 0), (.int (0) 0), (.int (0) 0), (.int (3) 0), (.ref 365), (.bool true), (.int (273) 0), (.ref 366), .none, (.ref 367), (.ref 368), (.ref 369), (.int (694) 0), (.int (225) 0), (.str (S "/claim/cut.py") 695)]), #[]⟩
noncomputable def o371 (P : Params) : Obj := ⟨(.type "function"), none, (.func (fd (clsSt 10 3) "StringIO.__check" .none (.str (S "io") 286) (.ref 370))), #[]⟩
noncomputable def o526 (P : Params) : Obj := ⟨(.type "tuple"), none, (.seq #[(.int (-1) 863)] 0), #[]⟩
noncomputable def o532 (P : Params) : Obj := ⟨(.type "code"), none, (.fields #[(.str (S "read") 864), (.str (S "StringIO.read") 865), (.str (S "/claim/cut.py") 866), (.int (347) 0), (.int (2) 0), (.int (2) 0), (.int (0) 0), (.int (3) 0), (.ref 527), (.bool true), (.int (273) 0), (.ref 528), .none, (.ref 529), (.ref 530), (.ref 531), (.int (871) 0), (.int (347) 0), (.str (S "/claim/cut.py") 872)]), #[]⟩
noncomputable def o533 (P : Params) : Obj := ⟨(.type "function"), none, (.func (fd (clsSt 10 25) "StringIO.read" (.ref 526) (.str (S "io") 286) (.ref 532))), #[]⟩
noncomputable def o586 (P : Params) : Obj := ⟨(.type "dict"), none, (.dict [en P "__module__" 663 (.str (S "_io") 668), en P "__firstlineno__" 667 (.int (201) 666), en P "__init__" 680 (.ref 357), en P "_StringIO__translated" 689 (.ref 364), en P "_StringIO__check" 696 (.ref 371), en P "_StringIO__check_dot" 703 (.ref 378), en P "_StringIO__line" 718 (.ref 385), en P "closed" 726 (.ref 393), en P "line_buffering" 734 (.ref 401), en P "newlines" 742 (.ref 409), en P "encoding" 750 (.ref 417), en P "errors" 758 (.ref 425), en P "close" 765 (.ref 432), en P "__enter__" 772 (.ref 439), en P "__exit__" 780 (.ref 446), en P "readable" 787 (.ref 453), en P "writable" 794 (.ref 460), en P "seekable" 801 (.ref 467), en P "isatty" 808 (.ref 474), en P "flush" 815 (.ref 481), en P "fileno" 822 (.ref 488), en P "detach" 829 (.ref 495), en P "getvalue" 836 (.ref 502), en P "tell" 843 (.ref 509), en P "seek" 853 (.ref 517), en P "truncate" 861 (.ref 525), en P "read" 873 (.ref 533), en P "readline" 883 (.ref 541), en P "readlines" 893 (.ref 549), en P "__iter__" 900 (.ref 556), en P "__next__" 908 (.ref 563), en P "write" 920 (.ref 570), en P "writelines" 928 (.ref 577), en P "__repr__" 935 (.ref 584), en P "__static_attributes__" 939 (.ref 585), en P "__doc__" 940 .none].toArray 2), #[]⟩
noncomputable def o587 (P : Params) : Obj := ⟨(.type "type"), none, (.cls { name := (S "StringIO"), bases := [(.ref 110)], mro := [(.ref 587), (.ref 110), (.ref 83), (.type "object")], ns := 586, qualname := (S "StringIO"), hasDict := true, slotNames := [], subclasses := [], abstract := false, collection := none, hasDel := false }), #[some (.ref 343), none, some (.str (S "StringIO") 656), some (.str (S "StringIO") 664), some .none, some (.bool true)]⟩
noncomputable def o639 (P : Params) : Obj := ⟨(.type "tuple"), none, (.seq #[.none, .none, (.bool false), (.bool false)] 0), #[]⟩
noncomputable def o645 (P : Params) : Obj := ⟨(.type "code"), none, (.fields #[(.str (S "__init__") 1015), (.str (S "shlex.__init__") 1016), (.str (S "/claim/cut.py") 1017), (.int (472) 0), (.int (5) 0), (.int (0) 0), (.int (0) 0), (.int (3) 0), (.ref 640), (.bool true), (.int (273) 0), (.ref 641), .none, (.ref 642), (.ref 643), (.ref 644), (.int (1024) 0), (.int (472) 0), (.str (S "/claim/cut.py") 1025)]), #[]⟩
noncomputable def o646 (P : Params) : Obj := ⟨(.type "function"), none, (.func (fd (clsSt 19 0) "shlex.__init__" (.ref 639) (.str (S "cpy313.shlex") 1001) (.ref 645))), #[]⟩
noncomputable def o652 (P : Params) : Obj := ⟨(.type "code"), none, (.fields #[(.str (S "punctuation_chars") 1027), (.str (S "shlex.punctuation_chars") 1028), (.str (S "/claim/cut.py") 1029), (.int (513) 0), (.int (1) 0), (.int (0) 0), (.int (0) 0), (.int (3) 0), (.ref 647), (.bool true), (.int (273) 0), (.ref 648), .none, (.ref 649), (.ref 650), (.ref 651), (.int (1031) 0), (.int (513) 0), (.str (S "/claim/cut.py") 1032)]), #[]⟩
noncomputable def o653 (P : Params) : Obj := ⟨(.type "function"), none, (.func (fd (clsSt 19 1) "shlex.punctuation_chars" .none (.str (S "cpy313.shlex") 1001) (.ref 652))), #[]⟩
noncomputable def o654 (P : Params) : Obj := ⟨(.type "property"), none, (.fields #[(.ref 653), .none, .none, .none, (.str (S "punctuation_chars") 1034), (.bool false)]), #[]⟩
noncomputable def o682 (P : Params) : Obj := ⟨(.type "code"), none, (.fields #[(.str (S "get_token") 1059), (.str (S "shlex.get_token") 1060), (.str (S "/claim/cut.py") 1061), (.int (540) 0), (.int (1) 0), (.int (0) 0), (.int (0) 0), (.int (3) 0), (.ref 677), (.bool true), (.int (273) 0), (.ref 678), .none, (.ref 679), (.ref 680), (.ref 681), (.int (1068) 0), (.int (540) 0), (.str (S "/claim/cut.py") 1069)]), #[]⟩
noncomputable def o683 (P : Params) : Obj := ⟨(.type "function"), none, (.func (fd (clsSt 19 5) "shlex.get_token" .none (.str (S "cpy313.shlex") 1001) (.ref 682))), #[]⟩
noncomputable def o689 (P : Params) : Obj := ⟨(.type "code"), none, (.fields #[(.str (S "read_token") 1071), (.str (S "shlex.read_token") 1072), (.str (S "/claim/cut.py") 1073), (.int (567) 0), (.int (1) 0), (.int (0) 0), (.int (0) 0), (.int (3) 0), (.ref 684), (.bool true), (.int (273) 0), (.ref 685), .none, (.ref 686), (.ref 687), (.ref 688), (.int (1079) 0), (.int (567) 0), (.str (S "/claim/cut.py") 1080)]), #[]⟩
noncomputable def o690 (P : Params) : Obj := ⟨(.type "function"), none, (.func (fd (clsSt 19 6) "shlex.read_token" .none (.str (S "cpy313.shlex") 1001) (.ref 689))), #[]⟩
noncomputable def o721 (P : Params) : Obj := ⟨(.type "dict"), none, (.dict [en P "__module__" 1010 (.str (S "cpy313.shlex") 1001), en P "__firstlineno__" 1014 (.int (470) 1013), en P "__init__" 1026 (.ref 646), en P "punctuation_chars" 1034 (.ref 654), en P "push_token" 1042 (.ref 661), en P "push_source" 1051 (.ref 669), en P "pop_source" 1058 (.ref 676), en P "get_token" 1070 (.ref 683), en P "read_token" 1081 (.ref 690), en P "sourcehook" 1089 (.ref 697), en P "error_leader" 1098 (.ref 705), en P "__iter__" 1105 (.ref 712), en P "__next__" 1113 (.ref 719), en P "__static_attributes__" 1134 (.ref 720), en P "__dict__" 1136 (.ref 723), en P "__weakref__" 1138 (.ref 724), en P "__doc__" 1139 .none].toArray 4), #[]⟩
noncomputable def o722 (P : Params) : Obj := ⟨(.type "type"), none, (.cls { name := (S "shlex"), bases := [(.type "object")], mro := [(.ref 722), (.type "object")], ns := 721, qualname := (S "shlex"), hasDict := true, slotNames := [], subclasses := [], abstract := false, collection := none, hasDel := false }), #[none, none, some (.str (S "shlex") 1003), some (.str (S "shlex") 1011), some (.builtin "object.__new__"), some (.bool true)]⟩
noncomputable def o723 (P : Params) : Obj := ⟨(.type "getset_descriptor"), none, (.fields #[(.str (S "__dict__") 1135), (.ref 722), (.builtin "function.__dict__"), (.builtin "function.__dict__#set")]), #[]⟩
noncomputable def o724 (P : Params) : Obj := ⟨(.type "getset_descriptor"), none, (.fields #[(.str (S "__weakref__") 1137), (.ref 722), (.builtin "ExceptionGroup.__weakref__"), .none]), #[]⟩
noncomputable def o732 (P : Params) : Obj := ⟨(.type "code"), none, (.fields #[(.str (S "heappush") 1144), (.str (S "heappush") 1145), (.str (S "/claim/cut.py") 1146), (.int (723) 0), (.int (2) 0), (.int (0) 0), (.int (0) 0), (.int (3) 0), (.ref 727), (.bool true), (.int (273) 0), (.ref 728), .none, (.ref 729), (.ref 730), (.ref 731), (.int (1149) 0), (.int (723) 0), (.str (S "/claim/cut.py") 1150)]), #[]⟩
noncomputable def o733 (P : Params) : Obj := ⟨(.type "function"), none, (.func (fd (topSt 21) "heappush" .none (.str (S "cpy313.heapq") 1142) (.ref 732))), #[]⟩
noncomputable def o739 (P : Params) : Obj := ⟨(.type "code"), none, (.fields #[(.str (S "heappop") 1152), (.str (S "heappop") 1153), (.str (S "/claim/cut.py") 1154), (.int (726) 0), (.int (1) 0), (.int (0) 0), (.int (0) 0), (.int (3) 0), (.ref 734), (.bool true), (.int (273) 0), (.ref 735), .none, (.ref 736), (.ref 737), (.ref 738), (.int (1158) 0), (.int (726) 0), (.str (S "/claim/cut.py") 1159)]), #[]⟩
noncomputable def o740 (P : Params) : Obj := ⟨(.type "function"), none, (.func (fd (topSt 22) "heappop" .none (.str (S "cpy313.heapq") 1142) (.ref 739))), #[]⟩
noncomputable def o746 (P : Params) : Obj := ⟨(.type "code"), none, (.fields #[(.str (S "heapreplace") 1161), (.str (S "heapreplace") 1162), (.str (S "/claim/cut.py") 1163), (.int (734) 0), (.int (2) 0), (.int (0) 0), (.int (0) 0), (.int (3) 0), (.ref 741), (.bool true), (.int (273) 0), (.ref 742), .none, (.ref 743), (.ref 744), (.ref 745), (.int (1167) 0), (.int (734) 0), (.str (S "/claim/cut.py") 1168)]), #[]⟩
noncomputable def o747 (P : Params) : Obj := ⟨(.type "function"), none, (.func (fd (topSt 23) "heapreplace" .none (.str (S "cpy313.heapq") 1142) (.ref 746))), #[]⟩
noncomputable def o753 (P : Params) : Obj := ⟨(.type "code"), none, (.fields #[(.str (S "heappushpop") 1170), (.str (S "heappushpop") 1171), (.str (S "/claim/cut.py") 1172), (.int (739) 0), (.int (2) 0), (.int (0) 0), (.int (0) 0), (.int (3) 0), (.ref 748), (.bool true), (.int (273) 0), (.ref 749), .none, (.ref 750), (.ref 751), (.ref 752), (.int (1175) 0), (.int (739) 0), (.str (S "/claim/cut.py") 1176)]), #[]⟩
noncomputable def o754 (P : Params) : Obj := ⟨(.type "function"), none, (.func (fd (topSt 24) "heappushpop" .none (.str (S "cpy313.heapq") 1142) (.ref 753))), #[]⟩
noncomputable def o760 (P : Params) : Obj := ⟨(.type "code"), none, (.fields #[(.str (S "_siftdown") 1178), (.str (S "_siftdown") 1179), (.str (S "/claim/cut.py") 1180), (.int (744) 0), (.int (3) 0), (.int (0) 0), (.int (0) 0), (.int (3) 0), (.ref 755), (.bool true), (.int (273) 0), (.ref 756), .none, (.ref 757), (.ref 758), (.ref 759), (.int (1187) 0), (.int (744) 0), (.str (S "/claim/cut.py") 1188)]), #[]⟩
noncomputable def o761 (P : Params) : Obj := ⟨(.type "function"), none, (.func (fd (topSt 25) "_siftdown" .none (.str (S "cpy313.heapq") 1142) (.ref 760))), #[]⟩
noncomputable def o767 (P : Params) : Obj := ⟨(.type "code"), none, (.fields #[(.str (S "_siftup") 1190), (.str (S "_siftup") 1191), (.str (S "/claim/cut.py") 1192), (.int (755) 0), (.int (2) 0), (.int (0) 0), (.int (0) 0), (.int (3) 0), (.ref 762), (.bool true), (.int (273) 0), (.ref 763), .none, (.ref 764), (.ref 765), (.ref 766), (.int (1200) 0), (.int (755) 0), (.str (S "/claim/cut.py") 1201)]), #[]⟩
noncomputable def o768 (P : Params) : Obj := ⟨(.type "function"), none, (.func (fd (topSt 26) "_siftup" .none (.str (S "cpy313.heapq") 1142) (.ref 767))), #[]⟩
noncomputable def o774 (P : Params) : Obj := ⟨(.type "code"), none, (.fields #[(.str (S "Int2AP") 1205), (.str (S "Int2AP") 1206), (.str (S "/claim/cut.py") 1207), (.int (770) 0), (.int (1) 0), (.int (0) 0), (.int (0) 0), (.int (3) 0), (.ref 769), (.bool true), (.int (273) 0), (.ref 770), .none, (.ref 771), (.ref 772), (.ref 773), (.int (1212) 0), (.int (770) 0), (.str (S "/claim/cut.py") 1213)]), #[]⟩
noncomputable def o775 (P : Params) : Obj := ⟨(.type "function"), none, (.func (fd (topSt 28) "Int2AP" .none (.str (S "cpy313.imaplib") 1203) (.ref 774))), #[]⟩
noncomputable def o779 (P : Params) : Obj := ⟨(.type "code"), none, (.fields #[(.str (S "_law_roles") 1217), (.str (S "_law_roles") 1218), (.str (S "/claim/cut.py") 1219), (.int (779) 0), (.int (1) 0), (.int (0) 0), (.int (0) 0), (.int (3) 0), (.ref 776), (.bool true), (.int (273) 0), (.ref 777), .none, .none, .none, (.ref 778), (.int (1220) 0), (.int (779) 0), (.str (S "/claim/cut.py") 1221)]), #[]⟩
noncomputable def o780 (P : Params) : Obj := ⟨(.type "function"), none, (.func (fd (topSt 30) "_law_roles" .none (.str (S "law_op0228_01") 1215) (.ref 779))), #[]⟩
noncomputable def o786 (P : Params) : Obj := ⟨(.type "code"), none, (.fields #[(.str (S "_law_read") 1223), (.str (S "_law_read") 1224), (.str (S "/claim/cut.py") 1225), (.int (782) 0), (.int (1) 0), (.int (0) 0), (.int (0) 0), (.int (3) 0), (.ref 781), (.bool true), (.int (273) 0), (.ref 782), .none, (.ref 783), (.ref 784), (.ref 785), (.int (1229) 0), (.int (782) 0), (.str (S "/claim/cut.py") 1230)]), #[]⟩
noncomputable def o787 (P : Params) : Obj := ⟨(.type "function"), none, (.func (fd (topSt 31) "_law_read" .none (.str (S "law_op0228_01") 1215) (.ref 786))), #[]⟩
noncomputable def o793 (P : Params) : Obj := ⟨(.type "code"), none, (.fields #[(.str (S "_law_inside") 1232), (.str (S "_law_inside") 1233), (.str (S "/claim/cut.py") 1234), (.int (787) 0), (.int (2) 0), (.int (0) 0), (.int (0) 0), (.int (3) 0), (.ref 788), (.bool true), (.int (273) 0), (.ref 789), .none, (.ref 790), (.ref 791), (.ref 792), (.int (1241) 0), (.int (787) 0), (.str (S "/claim/cut.py") 1242)]), #[]⟩
noncomputable def o794 (P : Params) : Obj := ⟨(.type "function"), none, (.func (fd (topSt 32) "_law_inside" .none (.str (S "law_op0228_01") 1215) (.ref 793))), #[]⟩
noncomputable def o798 (P : Params) : Obj := ⟨(.type "code"), none, (.fields #[(.str (S "_law_spelled") 1244), (.str (S "_law_spelled") 1245), (.str (S "/claim/cut.py") 1246), (.int (796) 0), (.int (3) 0), (.int (0) 0), (.int (0) 0), (.int (3) 0), (.ref 795), (.bool true), (.int (273) 0), (.ref 796), .none, .none, .none, (.ref 797), (.int (1247) 0), (.int (796) 0), (.str (S "/claim/cut.py") 1248)]), #[]⟩
noncomputable def o799 (P : Params) : Obj := ⟨(.type "function"), none, (.func (fd (topSt 33) "_law_spelled" .none (.str (S "law_op0228_01") 1215) (.ref 798))), #[]⟩
noncomputable def o803 (P : Params) : Obj := ⟨(.type "code"), none, (.fields #[(.str (S "_law_laid") 1250), (.str (S "_law_laid") 1251), (.str (S "/claim/cut.py") 1252), (.int (802) 0), (.int (3) 0), (.int (0) 0), (.int (0) 0), (.int (3) 0), (.ref 800), (.bool true), (.int (273) 0), (.ref 801), .none, .none, .none, (.ref 802), (.int (1253) 0), (.int (802) 0), (.str (S "/claim/cut.py") 1254)]), #[]⟩
noncomputable def o804 (P : Params) : Obj := ⟨(.type "function"), none, (.func (fd (topSt 34) "_law_laid" .none (.str (S "law_op0228_01") 1215) (.ref 803))), #[]⟩
noncomputable def o808 (P : Params) : Obj := ⟨(.type "code"), none, (.fields #[(.str (S "_law_heard") 1256), (.str (S "_law_heard") 1257), (.str (S "/claim/cut.py") 1258), (.int (806) 0), (.int (2) 0), (.int (0) 0), (.int (0) 0), (.int (3) 0), (.ref 805), (.bool true), (.int (273) 0), (.ref 806), .none, .none, .none, (.ref 807), (.int (1259) 0), (.int (806) 0), (.str (S "/claim/cut.py") 1260)]), #[]⟩
noncomputable def o809 (P : Params) : Obj := ⟨(.type "function"), none, (.func (fd (topSt 35) "_law_heard" .none (.str (S "law_op0228_01") 1215) (.ref 808))), #[]⟩
noncomputable def o815 (P : Params) : Obj := ⟨(.type "code"), none, (.fields #[(.str (S "_law_called") 1262), (.str (S "_law_called") 1263), (.str (S "/claim/cut.py") 1264), (.int (820) 0), (.int (3) 0), (.int (0) 0), (.int (0) 0), (.int (3) 0), (.ref 810), (.bool true), (.int (273) 0), (.ref 811), .none, (.ref 812), (.ref 813), (.ref 814), (.int (1268) 0), (.int (820) 0), (.str (S "/claim/cut.py") 1269)]), #[]⟩
noncomputable def o816 (P : Params) : Obj := ⟨(.type "function"), none, (.func (fd (topSt 36) "_law_called" .none (.str (S "law_op0228_01") 1215) (.ref 815))), #[]⟩
noncomputable def o822 (P : Params) : Obj := ⟨(.type "code"), none, (.fields #[(.str (S "_law_plain") 1271), (.str (S "_law_plain") 1272), (.str (S "/claim/cut.py") 1273), (.int (831) 0), (.int (3) 0), (.int (0) 0), (.int (0) 0), (.int (3) 0), (.ref 817), (.bool true), (.int (273) 0), (.ref 818), .none, (.ref 819), (.ref 820), (.ref 821), (.int (1278) 0), (.int (831) 0), (.str (S "/claim/cut.py") 1279)]), #[]⟩
noncomputable def o823 (P : Params) : Obj := ⟨(.type "function"), none, (.func (fd (topSt 37) "_law_plain" .none (.str (S "law_op0228_01") 1215) (.ref 822))), #[]⟩
noncomputable def o827 (P : Params) : Obj := ⟨(.type "code"), none, (.fields #[(.str (S "_law_right") 1281), (.str (S "_law_right") 1282), (.str (S "/claim/cut.py") 1283), (.int (839) 0), (.int (3) 0), (.int (0) 0), (.int (0) 0), (.int (3) 0), (.ref 824), (.bool true), (.int (273) 0), (.ref 825), .none, .none, .none, (.ref 826), (.int (1284) 0), (.int (839) 0), (.str (S "/claim/cut.py") 1285)]), #[]⟩
noncomputable def o828 (P : Params) : Obj := ⟨(.type "function"), none, (.func (fd (topSt 38) "_law_right" .none (.str (S "law_op0228_01") 1215) (.ref 827))), #[]⟩
noncomputable def o834 (P : Params) : Obj := ⟨(.type "code"), none, (.fields #[(.str (S "_law_run") 1287), (.str (S "_law_run") 1288), (.str (S "/claim/cut.py") 1289), (.int (842) 0), (.int (3) 0), (.int (0) 0), (.int (0) 0), (.int (3) 0), (.ref 829), (.bool true), (.int (273) 0), (.ref 830), .none, (.ref 831), (.ref 832), (.ref 833), (.int (1300) 0), (.int (842) 0), (.str (S "/claim/cut.py") 1301)]), #[]⟩
noncomputable def o835 (P : Params) : Obj := ⟨(.type "function"), none, (.func (fd (topSt 39) "_law_run" .none (.str (S "law_op0228_01") 1215) (.ref 834))), #[]⟩
noncomputable def o841 (P : Params) : Obj := ⟨(.type "code"), none, (.fields #[(.str (S "law") 1303), (.str (S "law") 1304), (.str (S "/claim/cut.py") 1305), (.int (853) 0), (.int (1) 0), (.int (0) 0), (.int (0) 0), (.int (3) 0), (.ref 836), (.bool true), (.int (273) 0), (.ref 837), .none, (.ref 838), (.ref 839), (.ref 840), (.int (1308) 0), (.int (853) 0), (.str (S "/claim/cut.py") 1309)]), #[]⟩
noncomputable def o842 (P : Params) : Obj := ⟨(.type "function"), none, (.func (fd (topSt 40) "law" .none (.str (S "law_op0228_01") 1215) (.ref 841))), #[]⟩
noncomputable def K (P : Params) : Frag := [(nat_lit 2, o2 P), (nat_lit 3, o3 P), (nat_lit 52, o52 P), (nat_lit 53, o53 P), (nat_lit 79, o79 P), (nat_lit 80, o80 P), (nat_lit 82, o82 P), (nat_lit 83, o83 P), (nat_lit 84, o84 P), (nat_lit 85, o85 P), (nat_lit 86, o86 P), (nat_lit 109, o109 P), (nat_lit 110, o110 P), (nat_lit 340, o340 P), (nat_lit 350, o350 P), (nat_lit 356, o356 P), (nat_lit 357, o357 P), (nat_lit 363, o363 P), (nat_lit 364, o364 P), (nat_lit 370, o370 P), (nat_lit 371, o371 P), (nat_lit 526, o526 P), (nat_lit 532, o532 P), (nat_lit 533, o533 P), (nat_lit 586, o586 P), (nat_lit 587, o587 P), (nat_lit 639, o639 P), (nat_lit 645, o645 P), (nat_lit 646, o646 P), (nat_lit 652, o652 P), (nat_lit 653, o653 P), (nat_lit 654, o654 P), (nat_lit 682, o682 P), (nat_lit 683, o683 P), (nat_lit 689, o689 P), (nat_lit 690, o690 P), (nat_lit 721, o721 P), (nat_lit 722, o722 P), (nat_lit 723, o723 P), (nat_lit 724, o724 P), (nat_lit 732, o732 P), (nat_lit 733, o733 P), (nat_lit 739, o739 P), (nat_lit 740, o740 P), (nat_lit 746, o746 P), (nat_lit 747, o747 P), (nat_lit 753, o753 P), (nat_lit 754, o754 P), (nat_lit 760, o760 P), (nat_lit 761, o761 P), (nat_lit 767, o767 P), (nat_lit 768, o768 P), (nat_lit 774, o774 P), (nat_lit 775, o775 P), (nat_lit 779, o779 P), (nat_lit 780, o780 P), (nat_lit 786, o786 P), (nat_lit 787, o787 P), (nat_lit 793, o793 P), (nat_lit 794, o794 P), (nat_lit 798, o798 P), (nat_lit 799, o799 P), (nat_lit 803, o803 P), (nat_lit 804, o804 P), (nat_lit 808, o808 P), (nat_lit 809, o809 P), (nat_lit 815, o815 P), (nat_lit 816, o816 P), (nat_lit 822, o822 P), (nat_lit 823, o823 P), (nat_lit 827, o827 P), (nat_lit 828, o828 P), (nat_lit 834, o834 P), (nat_lit 835, o835 P), (nat_lit 841, o841 P), (nat_lit 842, o842 P)]
noncomputable def kAddrs : List Addr := [2, 3, 52, 53, 79, 80, 82, 83, 84, 85, 86, 109, 110, 340, 350, 356, 357, 363, 364, 370, 371, 526, 532, 533, 586, 587, 639, 645, 646, 652, 653, 654, 682, 683, 689, 690, 721, 722, 723, 724, 732, 733, 739, 740, 746, 747, 753, 754, 760, 761, 767, 768, 774, 775, 779, 780, 786, 787, 793, 794, 798, 799, 803, 804, 808, 809, 815, 816, 822, 823, 827, 828, 834, 835, 841, 842]
noncomputable def q : Program := view pw [40]
noncomputable def loose : List Str := ["deque", "_wall", "_whence", "_index", "UnsupportedOperation", "IOBase", "BufferedIOBase", "TextIOBase", "BytesIO", "StringIO", "_kind", "_fspath", "_check_arg_types", "isabs", "join", "dirname", "shlex", "heappush", "heappop", "heapreplace", "heappushpop", "_siftdown", "_siftup", "Int2AP", "_law_roles", "_law_read", "_law_inside", "_law_spelled", "_law_laid", "_law_heard", "_law_called", "_law_plain", "_law_right", "_law_run"].map Str.ofString
noncomputable def topN : Nat := 10000
noncomputable def btOf : List Obj → Nat → BT → Option BT
  | [], _, t => some t
  | o :: l, n, t => match ((t.ins n o).get n).isSome with
    | true => btOf l (n + 1) (t.ins n o)
    | false => none
theorem btOf_abs {life : Life} : ∀ {l : List Obj} {n : Nat} {t t' : BT} {l0 : List Obj}, btOf l n t = some t' → absHeap t n life = ⟨l0.toArray, life⟩ → absHeap t' (n + l.length) life = ⟨(l0 ++ l).toArray, life⟩
  | [], n, t, t', l0, h, e => by
    cases h
    simpa using e
  | o :: l, n, t, t', l0, h, e => by
    unfold btOf at h
    cases q : ((t.ins n o).get n).isSome with
    | false => rw [q] at h; cases h
    | true =>
      rw [q] at h
      have z := btOf_abs (life := life) (l0 := l0 ++ [o]) h (by rw [absHeap_ins q, e]; simp [Heap.push])
      rw [List.append_assoc] at z
      rw [List.length_cons, show n + (l.length + 1) = n + 1 + l.length by omega]
      exact z
noncomputable def goT (step : SharedT → Thread → Option (SharedT × Thread)) (ok : Thread → Bool) : Nat → SharedT → Thread → Option SharedT
  | 0, _, _ => none
  | n + 1, s, t => match through t with
    | true => some s
    | false => match ok t with
      | false => none
      | true => match step s t with
        | some (s', t') => goT step ok n s' t'
        | none => none
theorem goT_top {tb : String → Option Builtin} {p : Program} {w : World} {n₀ : Nat} {ann : Option Value} : ∀ {n : Nat} {s s' : SharedT} {t : Thread}, goT (stepT (denote tb) p w) (stepOk n₀ ann) n s t = some s' → topRun tb p w n₀ ann n s.abs t = some s'.abs
  | 0, _, _, _, h => by cases h
  | n + 1, s, s', t, h => by
    unfold goT at h
    unfold topRun
    cases ht : through t with
    | true => rw [ht] at h; cases h; rfl
    | false =>
      rw [ht] at h
      cases hk : stepOk n₀ ann t with
      | false => rw [hk] at h; cases h
      | true =>
        rw [hk] at h
        cases hs : stepT (denote tb) p w s t with
        | none => rw [hs] at h; cases h
        | some x =>
          obtain ⟨s₁, t₁⟩ := x
          rw [hs] at h
          simp only [stepT_spec hs]
          exact goT_top h
noncomputable def obs (s₀ : Shared) (T : SharedT) :=
  (staticsOk (importedModules pw.main.body) s₀.heap T.abs.heap && namesBound pw T.abs.heap && gensDone T.abs && laidKept s₀.heap T.abs.heap,
   openSeen q loose (importedModules pw.main.body) (fun _ => true) true T.abs, kAddrs.map T.abs.heap.get?)
noncomputable def runAll (w : World) :=
  ((importEnds treeTable (opening pw) w topN (PySem.start (opening pw)).1 (PySem.start (opening pw)).2).bind (fenceModules? pw)).bind fun s₀ =>
    match s₀.heap.isNs mainGlobals && s₀.gens.size == 0 with
    | true => (btOf s₀.heap.objs.toList 0 .nil).bind fun T =>
      (goT (stepT (denote treeTable) pw w) (stepOk s₀.heap.objs.size (s₀.heap.nsMap mainGlobals "__annotations__")) topN ⟨T, s₀.heap.objs.size, s₀.heap.life, s₀.gens, s₀.drawn, s₀.toks, s₀.os⟩ (topStub pw)).map (obs s₀)
    | false => none
theorem ran (w : World) : runAll w = some (true, openGood q loose, (K w.params).map fun p => some p.2) := by
  unfold runAll
  unfold obs
  rw [PySem.W.Fast.te10274390034422433532, PySem.W.Fast.te1435165496053646825, PySem.W.Fast.te14289696077712309145, PySem.W.Fast.te10156331382660048174, PySem.W.Fast.te11892475500146522536, PySem.W.Fast.te14364793385576792824, PySem.W.Fast.te6613529449190102663, PySem.W.Fast.te4187177175401517315, PySem.W.Fast.te5923862056798008813, PySem.W.Fast.te8920871248978507458]
  kernel_rfl
theorem left : LeftO pw q loose (fun _ => true) (fun s => kAddrs.map s.heap.get?) (fun w => (K w.params).map fun p => some p.2) topN := by
  intro w
  have h := ran w
  unfold runAll at h
  obtain ⟨s₀, h0, h⟩ := Option.bind_eq_some_iff.mp h
  cases hg : (s₀.heap.isNs mainGlobals && s₀.gens.size == 0) with
  | false => rw [hg] at h; cases h
  | true =>
    rw [hg] at h
    obtain ⟨T, hT, h⟩ := Option.bind_eq_some_iff.mp h
    obtain ⟨T₁, h1, h2⟩ := Option.map_eq_some_iff.mp h
    have a := goT_top h1
    have b : absHeap T s₀.heap.objs.size s₀.heap.life = s₀.heap := by
      have z := btOf_abs (life := s₀.heap.life) (l0 := []) hT (by rfl)
      simp only [Nat.zero_add, List.nil_append, Array.length_toList, Array.toArray_toList] at z
      exact z
    have c : SharedT.abs ⟨T, s₀.heap.objs.size, s₀.heap.life, s₀.gens, s₀.drawn, s₀.toks, s₀.os⟩ = s₀ := by
      unfold SharedT.abs
      dsimp only
      rw [b]
    rw [c] at a
    unfold obs at h2
    obtain ⟨e1, e2⟩ := Prod.mk.inj h2
    obtain ⟨e2, e3⟩ := Prod.mk.inj e2
    have d : topFrom treeTable pw w topN s₀ = some T₁.abs := by
      unfold topFrom
      rw [hg, a]
      show (match staticsOk (importedModules pw.main.body) s₀.heap T₁.abs.heap && namesBound pw T₁.abs.heap && gensDone T₁.abs && laidKept s₀.heap T₁.abs.heap with | true => _ | false => _) = _
      rw [e1]
    unfold openEnds
    unfold fencedOpening
    rw [h0]
    show (topFrom treeTable pw w topN s₀).map _ = _
    rw [d]
    exact congrArg some (Prod.ext e2 e3)
end
end Mine
namespace Mine
noncomputable section
structure Base (w : World) (h : Heap) : Prop where
  kin : (K w.params).In h
  nolimit : h.NoLimit
  glob : ∃ mg, h.Ns mainGlobals mg
  blt : ∃ mb, h.Ns builtinsNs mb ∧ ∀ x : Str, x ≠ "__name__" → mb x = bootBuiltins x
theorem Base.keeps {w : World} {h h' : Heap} (b : Base w h) (k : ∀ a o, h.get? a = some o → h'.get? a = some o) : Base w h' :=
  ⟨b.kin.keeps k, b.nolimit.keeps k, let ⟨mg, x⟩ := b.glob; ⟨mg, x.keeps k⟩, let ⟨mb, x, y⟩ := b.blt; ⟨mb, x.keeps k, y⟩⟩
noncomputable def LawOk : Prop := ∀ (w : World) (s : Shared) (a : Addr) (vs : List Value) (ns : List Int), Base w s.heap → s.gens = #[] → s.heap.IsList a vs.toArray → IntsAre vs ns → ns.length ≤ 63 →
  wpAny (model pw w) callerA (call (.ref 842) [.ref a]) (fun v s' => v = .bool true ∧ (∀ b o, s.heap.get? b = some o → s'.heap.get? b = some o) ∧ s'.os = s.os ∧ s'.gens = #[]) (fun _ _ => False) s
noncomputable def dLaw : DefRec := match topSt 40 with
  | .FunctionDef name args body _ _ _ scope _ _ pos => ⟨name, args, body, scope, pos⟩
  | _ => ⟨default, default, default, default, default⟩
theorem kKeys (P : Params) : kAddrs = (K P).map (·.1) := by kernel_rfl
theorem mgLaw {w : World} {h : Heap} {mg : Str → Option Value} (k : (K w.params).In h) (g : h.Ns mainGlobals mg) : mg (Str.ofString "law") = some (.ref 842) := mg_of k g (by kernel_rfl)
theorem head (H : LawOk) : PySem.Challenge.rw_op0228_01.Holds := by
  refine holds_law said fun k1 => ?_
  refine holds_open (q := q) (loose := loose) (Xt := fun _ => true) (XP := fun _ _ => True) (YP := InK K) (d := dLaw) (kwd := []) left (fun w s e => InK.of kKeys w s e) InK.keeps (fun _ _ => trivial) (fun _ _ _ _ _ => trivial)
    (by kernel_rfl) (by kernel_rfl) (by kernel_rfl) (fun s _ => recFacts_nil rfl) (by rfl) k1 (by decide +kernel) ⟨rfl, rfl, rfl, rfl, rfl, by decide +kernel⟩ ?hw ?hc
  case hw => w_witness2
  case hc =>
    intro w s₀ s₁ mg mb G Y fa o pm cd doc dV kV ho hd hcd hD hmg hg args vals as hpre hlay hrd hwl hlo
    have hY : (K w.params).In s₁.heap := Y
    have T := G.T
    have bs : Base w s₁.heap := ⟨hY, T.nolimit, ⟨mg, T.g⟩, ⟨mb, T.b, T.builtins⟩⟩
    have e1 := mgLaw hY T.g
    have e2 : (.ref fa : Value) = .ref 842 := Option.some.inj (hmg.symm.trans e1)
    cases e2
    wrow_args hpre hlay hrd hwl hlo
    refine wpAny_mono (H w s₁ _ _ _ bs hg (by assumption) (by assumption) (by omega)) (fun v s' h => ?_) (fun _ _ h => h.elim)
    obtain ⟨rfl, k, os, g⟩ := h
    exact GoodW.toG ⟨.inl ⟨.bool true, .bool true, [], rfl, raisesW_false (by wrow_none_raised), .bool true, postW_of (by first | exact rfl | (show WShape.has _ (WData.bool true) WShape.bool = true; simp [WShape.has]) | (show WShape.has _ (WData.bool true) WShape.bool = true; rw [WShape.has])) (w_eq_bool (w_res rfl) w_lit) rfl, unshared_nil⟩, k, os, g⟩
end
end Mine
namespace Mine
noncomputable section
inductive All2 {α β : Type} (R : α → β → Prop) : List α → List β → Prop where
  | nil : All2 R [] []
  | cons {a : α} {b : β} {l : List α} {l' : List β} : R a b → All2 R l l' → All2 R (a :: l) (b :: l')
inductive Ty where
  | int | type | range | deque | str | bool | object | indexError
noncomputable def Ty.name : Ty → String
  | .int => "int" | .type => "type" | .range => "range" | .deque => "collections.deque" | .str => "str" | .bool => "bool" | .object => "object" | .indexError => "IndexError"
noncomputable def Ty.num : Ty → Nat
  | .int => 0 | .type => 1 | .range => 2 | .deque => 3 | .str => 4 | .bool => 5 | .object => 6 | .indexError => 7
inductive B where
  | len | abs | divmod | sorted | isinstance | append | pop | sort | join | index | decode
noncomputable def B.id : B → String
  | .len => "len" | .abs => "abs" | .divmod => "divmod" | .sorted => "sorted" | .isinstance => "isinstance" | .append => "list.append" | .pop => "list.pop" | .sort => "list.sort" | .join => "str.join" | .index => "str.index" | .decode => "bytes.decode"
inductive D where
  | none | tt | ff | bool (b : Bool) | int (i : Int) | str (x : List Nat) | bytes (b : List UInt8)
  | obj (i : Nat) | top (a : Addr) | type (n : Ty) | fn (id : B)
inductive ItK where
  | str (u : List Nat) | list (j : Nat) | range (a : Int) (n : Nat)
inductive AO where
  | ints (xs : List Int) | strs (xs : List (List Nat)) | inst (C : Addr) (d : Nat) | dict (es : List (Str × D)) | cell (d : Option D) | deq | tup (ds : List D) | it (k : ItK) (i : Nat) | rng (a b : Int) | junk | fixed (xs : List Int) (o : Obj) | frame (o : Obj)
structure St where
  loc : List (Str × D)
  cel : List (Str × Nat)
  objs : List AO
noncomputable def lk {β : Type} (y : Str) : List (Str × β) → Option β
  | [] => none
  | p :: r => match Fast.sEq p.1 y with
    | true => some p.2
    | false => lk y r
noncomputable def put {β : Type} (y : Str) (d : β) : List (Str × β) → List (Str × β)
  | [] => [(y, d)]
  | p :: r => match Fast.sEq p.1 y with
    | true => (p.1, d) :: r
    | false => p :: put y d r
theorem lk_put {β : Type} (y z : Str) (d : β) : ∀ l : List (Str × β), lk z (put y d l) = if z = y then some d else lk z l
  | [] => by
    unfold put lk
    by_cases h : z = y
    · subst h; rw [Fast.sEq_iff.mpr rfl, if_pos rfl]
    · rw [if_neg h]
      cases q : Fast.sEq y z with
      | true => exact absurd (Fast.sEq_iff.mp q).symm h
      | false => rfl
  | p :: r => by
    unfold put
    cases q : Fast.sEq p.1 y with
    | true =>
      have e := Fast.sEq_iff.mp q
      dsimp only
      unfold lk
      by_cases h : z = y
      · subst h; rw [if_pos rfl]; dsimp only; rw [q]
      · rw [if_neg h]
        dsimp only
        cases q' : Fast.sEq p.1 z with
        | true => exact absurd ((Fast.sEq_iff.mp q').symm.trans e) h
        | false => rfl
    | false =>
      dsimp only
      unfold lk
      cases q' : Fast.sEq p.1 z with
      | true =>
        have e := Fast.sEq_iff.mp q'
        have : z ≠ y := fun h => by
          rw [Fast.sEq_iff.mpr (e.trans h)] at q; cases q
        rw [if_neg this]
      | false => exact lk_put y z d r
noncomputable def Rel (as : List Addr) (v : Value) : D → Prop
  | .none => v = .none
  | .tt => v = .bool true
  | .ff => v = .bool false
  | .bool b => v = .bool b
  | .int i => ∃ t, v = .int i t
  | .str x => ∃ t, v = .str ⟨x.toArray⟩ t
  | .bytes b => ∃ t, v = .bytes b.toArray t
  | .obj i => ∃ a, as[i]? = some a ∧ v = .ref a
  | .top a => v = .ref a
  | .type n => v = .type n.name
  | .fn b => v = .builtin b.id
theorem Rel.mono {as bs : List Addr} {v : Value} {d : D} (h : Rel as v d) (k : as <+: bs) : Rel bs v d := by
  cases d with
  | obj i =>
    obtain ⟨a, e, rfl⟩ := h
    obtain ⟨t, rfl⟩ := k
    exact ⟨a, by rw [List.getElem?_append_left (List.getElem?_eq_some_iff.mp e).1]; exact e, rfl⟩
  | _ => exact h
noncomputable def OM (as : List Addr) (o : Obj) : AO → Prop
  | .ints xs => ∃ vs n, o = listOf vs.toArray n ∧ IntsAre vs xs
  | .strs xs => ∃ vs n, o = listOf vs.toArray n ∧ All2 (fun v (x : List Nat) => ∃ t, v = Value.str ⟨x.toArray⟩ t) vs xs
  | .inst C d => ∃ a, as[d]? = some a ∧ o = instObj C a
  | .dict es => ∃ l n, o = dictOf l n ∧ All2 (fun (e : DictEntry) p => (∃ t, e.key = .str p.1 t) ∧ Rel as e.val p.2) l es
  | .cell d => ∃ sl, o.data = .cell sl ∧ (match d with | none => True | some d => ∃ v, sl = some v ∧ Rel as v d)
  | .deq => o.cls = .type "collections.deque" ∧ ∃ vs, o.data = .fields vs ∧ vs.size = 2
  | .tup ds => ∃ vs n, o = { cls := .type "tuple", data := .seq vs.toArray n } ∧ All2 (Rel as) vs ds
  | .it (.str u) i => o.cls = .type (strIterType ⟨u.toArray⟩) ∧ ∃ t, o.data = .fields #[.str ⟨u.toArray⟩ t, .int i 0]
  | .it (.list j) i => ∃ a, as[j]? = some a ∧ o.cls = .type "list_iterator" ∧ o.data = .fields #[.ref a, .int i 0]
  | .it (.range a n) i => o = { cls := .type "range_iterator", dict := none, data := .fields #[rawInt (a + (i : Nat)), rawInt ((n : Int) - (i : Nat)), rawInt 1], slots := #[] }
  | .rng a b => ∃ t u v, o = { cls := .type "range", dict := none, data := .fields #[.int a t, .int b u, .int 1 v], slots := #[] }
  | .junk => True
  | .fixed xs o₀ => o = o₀ ∧ o₀.cls = .type "list" ∧ ∃ vs n, o₀.data = .seq vs.toArray n ∧ IntsAre vs xs
  | .frame o₀ => (∃ sl, o = { o₀ with slots := sl }) ∧ ∃ es n, o₀.data = .dict es n
theorem all2_mono {α β : Type} {R R' : α → β → Prop} (h : ∀ a b, R a b → R' a b) : ∀ {l : List α} {l' : List β}, All2 R l l' → All2 R' l l'
  | _, _, .nil => .nil
  | _, _, .cons a b => .cons (h _ _ a) (all2_mono h b)
theorem OM.mono {as bs : List Addr} {o : Obj} {a : AO} (h : OM as o a) (k : as <+: bs) : OM bs o a := by
  cases a with
  | inst C d => obtain ⟨a, e, rfl⟩ := h; exact ⟨a, by obtain ⟨t, rfl⟩ := k; rw [List.getElem?_append_left (List.getElem?_eq_some_iff.mp e).1]; exact e, rfl⟩
  | dict es => obtain ⟨l, n, rfl, h⟩ := h; exact ⟨l, n, rfl, all2_mono (fun _ _ q => ⟨q.1, q.2.mono k⟩) h⟩
  | cell d =>
    obtain ⟨sl, e, h⟩ := h
    refine ⟨sl, e, ?_⟩
    cases d with
    | none => trivial
    | some d => obtain ⟨v, e, r⟩ := h; exact ⟨v, e, r.mono k⟩
  | tup ds => obtain ⟨vs, n, rfl, h⟩ := h; exact ⟨vs, n, rfl, all2_mono (fun _ _ q => q.mono k) h⟩
  | it c i =>
    cases c with
    | list j => obtain ⟨a, e, h⟩ := h; exact ⟨a, by obtain ⟨t, rfl⟩ := k; rw [List.getElem?_append_left (List.getElem?_eq_some_iff.mp e).1]; exact e, h⟩
    | _ => exact h
  | _ => exact h
structure Room (n : Nat) (A : Around) : Prop where
  depth : A.depth + 8 * n < recursionLimit
  units : A.units + 64 + 40 * n < cLine
  handled : A.handled = none
structure Fx where
  w : World
  h₀ : Heap
  env : Env
  A : Around
  n : Nat
  os : OsState
  a0 : List Addr
structure Fx.Ok (x : Fx) : Prop where
  base : Base x.w x.h₀
  kind : x.env.scope.kind = .function
  glo : x.env.globals = mainGlobals
  blt : x.env.builtins = builtinsNs
  room : Room x.n x.A
noncomputable abbrev ads (news : List (Addr × Obj)) : List Addr := news.map (·.1)
structure Sim (x : Fx) (σ : St) (s : Shared) (m : Str → Option Value) (news : List (Addr × Obj)) : Prop where
  F : Fr x.h₀ x.env.locals s.heap m
  N : News x.h₀ x.env.locals s.heap news
  nd : (ads news).Nodup
  loc : ∀ y d, lk y σ.loc = some d → ∃ v, m y = some v ∧ Rel (ads news) v d
  cel : ∀ y i, lk y σ.cel = some i → ∃ a, (ads news)[i]? = some a ∧ x.env.cells.lookup y = some a
  obj : All2 (fun p ao => OM (ads news) p.2 ao) news σ.objs
  gens : s.gens = #[]
  os : s.os = x.os
/-- the same but for tokens -/
theorem Sim.toks {x : Fx} {σ : St} {s : Shared} {m : Str → Option Value} {news : List (Addr × Obj)} (h : Sim x σ s m news) (k : Nat) : Sim x σ { s with toks := k } m news :=
  ⟨h.F, h.N, h.nd, h.loc, h.cel, h.obj, h.gens, h.os⟩
noncomputable def EvOk (x : Fx) (e : Expr) (σ : St) (P : D → St → Prop) : Prop :=
  ∀ (s : Shared) (Q : Value → Shared → Prop) (E : Value → Shared → Prop) (m : Str → Option Value) (news : List (Addr × Obj)), Sim x σ s m news →
    (∀ v s' m' news' d σ', P d σ' → Sim x σ' s' m' news' → ads news <+: ads news' → Rel (ads news') v d → Q v s') → wpAny (model pw x.w) x.A (eval e x.env) Q E s
structure Own (hb h : Heap) (news : List (Addr × Obj)) (os : List AO) : Prop where
  keep : ∀ b o, hb.get? b = some o → h.get? b = some o
  size : hb.objs.size ≤ h.objs.size
  own : ∀ p ∈ news, h.get? p.1 = some p.2 ∧ hb.get? p.1 = none
  nd : (ads news).Nodup
  obj : All2 (fun p ao => OM (ads news) p.2 ao) news os
noncomputable def CallOk (w : World) (n : Nat) (f : Addr) (args : List D) (os : List AO) (P : D → List AO → Prop) : Prop :=
  ∀ (A : Around) (s : Shared) (hb : Heap) (news : List (Addr × Obj)) (vals : List Value) (R : Result → Shared → Prop), Room (n + 1) A → Base w hb → Own hb s.heap news os → All2 (Rel (ads news)) vals args → s.gens = #[] →
    (∀ v s' news' d os', P d os' → Own hb s'.heap news' os' → ads news <+: ads news' → Rel (ads news') v d → s'.gens = #[] → s'.os = s.os → R (.ok (.ret v)) s') →
    codeAny (model pw w) A (.call (.ref f) ⟨vals, []⟩) R s
inductive T (α : Type) where
  | ret (a : α) (σ : St)
  | br (b : Bool) (t e : T α)
  | need (p : Prop) (t : T α)
  | call (f : Addr) (args : List D) (os : List AO) (d : D) (os' : List AO) (t : T α)
  | ext (e : Expr) (σ : St) (d : D) (σ' : St) (t : T α)
  | bad
noncomputable def T.bind {α β : Type} : T α → (α → St → T β) → T β
  | .ret a σ, k => k a σ
  | .br b t e, k => .br b (t.bind k) (e.bind k)
  | .need p t, k => .need p (t.bind k)
  | .call f args os d os' t, k => .call f args os d os' (t.bind k)
  | .ext e σ d σ' t, k => .ext e σ d σ' (t.bind k)
  | .bad, _ => .bad
noncomputable def ok {α : Type} (x : Fx) : T α → (α → St → Prop) → Prop
  | .ret a σ, P => P a σ
  | .br b t e, P => (b = true → ok x t P) ∧ (b = false → ok x e P)
  | .need p t, P => p ∧ ok x t P
  | .call f args os d os' t, P => (∃ n, x.n = n + 1 ∧ CallOk x.w n f args os fun d' o => d' = d ∧ o = os') ∧ ok x t P
  | .ext e σ d σ' t, P => (EvOk x e σ fun d' o => d' = d ∧ o = σ') ∧ ok x t P
  | .bad, _ => False
theorem EvOk.mono {x : Fx} {e : Expr} {σ : St} {P P' : D → St → Prop} (h : EvOk x e σ P) (k : ∀ d σ, P d σ → P' d σ) : EvOk x e σ P' :=
  fun s Q E m news S q => h s Q E m news S fun v s' m' news' d σ' p => q v s' m' news' d σ' (k _ _ p)
theorem CallOk.mono {w : World} {n : Nat} {f : Addr} {args : List D} {os : List AO} {P P' : D → List AO → Prop} (h : CallOk w n f args os P) (k : ∀ d o, P d o → P' d o) : CallOk w n f args os P' :=
  fun A s hb news vals R a b c d e q => h A s hb news vals R a b c d e fun v s' news' d os' p => q v s' news' d os' (k _ _ p)
theorem ok_mono {α : Type} {x : Fx} : ∀ {t : T α} {P P' : α → St → Prop}, ok x t P → (∀ a σ, P a σ → P' a σ) → ok x t P'
  | .ret _ _, _, _, h, k => k _ _ h
  | .br _ _ _, _, _, h, k => ⟨fun q => ok_mono (h.1 q) k, fun q => ok_mono (h.2 q) k⟩
  | .need _ _, _, _, h, k => ⟨h.1, ok_mono h.2 k⟩
  | .call _ _ _ _ _ _, _, _, h, k => ⟨h.1, ok_mono h.2 k⟩
  | .ext _ _ _ _ _, _, _, h, k => ⟨h.1, ok_mono h.2 k⟩
  | .bad, _, _, h, _ => h.elim
theorem ok_bind {α β : Type} {x : Fx} : ∀ {t : T α} {k : α → St → T β} {P : β → St → Prop}, ok x (t.bind k) P → ok x t fun a σ => ok x (k a σ) P
  | .ret _ _, _, _, h => h
  | .br _ _ _, _, _, h => ⟨fun q => ok_bind (h.1 q), fun q => ok_bind (h.2 q)⟩
  | .need _ _, _, _, h => ⟨h.1, ok_bind h.2⟩
  | .call _ _ _ _ _ _, _, _, h => ⟨h.1, ok_bind h.2⟩
  | .ext _ _ _ _ _, _, _, h => ⟨h.1, ok_bind h.2⟩
  | .bad, _, _, h => h
end
end Mine
namespace Mine
noncomputable section
noncomputable def Post (x : Fx) {ν δ : Type} (Rl : List Addr → ν → δ → Prop) (news : List (Addr × Obj)) (P : δ → St → Prop) (Q : ν → Shared → Prop) : Prop :=
  ∀ v s' m' news' d σ', P d σ' → Sim x σ' s' m' news' → ads news <+: ads news' → Rl (ads news') v d → Q v s'
noncomputable def Snd (x : Fx) {ν δ : Type} (Rl : List Addr → ν → δ → Prop) (tree : Sem ν) (t : T δ) (σ : St) (news : List (Addr × Obj)) : Prop :=
  ∀ (P : δ → St → Prop), ok x t P → ∀ s Q E m, Sim x σ s m news → Post x Rl news P Q → wpAny (model pw x.w) x.A tree Q E s
/-- a truth that is known, or one that the facts decide -/
inductive Kb where
  | yes | no
  | dyn (b : Bool)
noncomputable def Kb.val : Kb → Bool
  | .yes => true
  | .no => false
  | .dyn b => b
noncomputable def Kb.neg : Kb → Kb
  | .yes => .no
  | .no => .yes
  | .dyn b => .dyn !b
noncomputable def Kb.toD : Kb → D
  | .yes => .tt
  | .no => .ff
  | .dyn b => .bool b
theorem Kb.neg_val (k : Kb) : k.neg.val = !k.val := by cases k <;> rfl
theorem Kb.rel (k : Kb) (as : List Addr) : Rel as (.bool k.val) k.toD := by cases k <;> rfl
noncomputable def brK {α : Type} (k : Kb) (t e : T α) : T α := match k with
  | .yes => t
  | .no => e
  | .dyn b => .br b t e
theorem brK_ok {α : Type} {x : Fx} {k : Kb} {t e : T α} {P : α → St → Prop} (h : ok x (brK k t e) P) : (k.val = true → ok x t P) ∧ (k.val = false → ok x e P) := by
  cases k with
  | yes => exact ⟨fun _ => h, fun q => by cases q⟩
  | no => exact ⟨fun q => (by cases q), fun _ => h⟩
  | dyn b => exact h
noncomputable def RB : List Addr → Bool → Kb → Prop := fun _ v d => v = d.val
theorem Post.of_pre {x : Fx} {ν δ : Type} {Rl : List Addr → ν → δ → Prop} {news news' : List (Addr × Obj)} {P : δ → St → Prop} {Q : ν → Shared → Prop} (h : Post x Rl news P Q) (k : ads news <+: ads news') : Post x Rl news' P Q :=
  fun v s' m' n' d σ' p S pre r => h v s' m' n' d σ' p S (k.trans pre) r
theorem Snd.ev {x : Fx} {e : Expr} {t : T D} {σ : St} (h : ∀ news, Snd x Rel (eval e x.env) t σ news) {P : D → St → Prop} (hok : ok x t P) : EvOk x e σ P :=
  fun s Q E m news S q => h news P hok s Q E m S q
/-- run t, then go on -/
theorem Snd.then {x : Fx} {ν δ ν' δ' : Type} {Rl : List Addr → ν → δ → Prop} {Rl' : List Addr → ν' → δ' → Prop} {tree : Sem ν} {t : T δ} {σ : St} {news : List (Addr × Obj)} {g : δ → St → T δ'} {P : δ' → St → Prop} {Q : ν' → Shared → Prop} {E : Value → Shared → Prop} {s : Shared} {m : Str → Option Value} {Q₁ : ν → Shared → Prop}
    (h : Snd x Rl tree t σ news) (hok : ok x (t.bind g) P) (S : Sim x σ s m news) (post : Post x Rl' news P Q)
    (k : ∀ v s' m' news' d σ', ok x (g d σ') P → Sim x σ' s' m' news' → ads news <+: ads news' → Rl (ads news') v d → Post x Rl' news' P Q → Q₁ v s') : wpAny (model pw x.w) x.A tree Q₁ E s :=
  h _ (ok_bind hok) s _ E m S fun v s' m' news' d σ' p S' pre r => k v s' m' news' d σ' p S' pre r (post.of_pre pre)
theorem Snd.br {x : Fx} {ν δ : Type} {Rl : List Addr → ν → δ → Prop} {tree : Sem ν} {b : Bool} {t e : T δ} {σ : St} {news : List (Addr × Obj)} (h1 : b = true → Snd x Rl tree t σ news) (h2 : b = false → Snd x Rl tree e σ news) : Snd x Rl tree (.br b t e) σ news := by
  intro P hok s Q E m S post
  cases b with
  | true => exact h1 rfl P (hok.1 rfl) s Q E m S post
  | false => exact h2 rfl P (hok.2 rfl) s Q E m S post
theorem pre_refl (l : List Addr) : l <+: l := ⟨[], List.append_nil l⟩
/-- a value at once, tokens may turn -/
theorem Post.here {x : Fx} {ν δ : Type} {Rl : List Addr → ν → δ → Prop} {news : List (Addr × Obj)} {P : δ → St → Prop} {Q : ν → Shared → Prop} {σ : St} {s : Shared} {m : Str → Option Value} {d : δ} {v : ν} {k : Nat}
    (h : Post x Rl news P Q) (hp : P d σ) (S : Sim x σ s m news) (r : Rl (ads news) v d) : Q v { s with toks := k } := h v _ m news d σ hp (S.toks k) (pre_refl _) r
theorem Post.here0 {x : Fx} {ν δ : Type} {Rl : List Addr → ν → δ → Prop} {news : List (Addr × Obj)} {P : δ → St → Prop} {Q : ν → Shared → Prop} {σ : St} {s : Shared} {m : Str → Option Value} {d : δ} {v : ν}
    (h : Post x Rl news P Q) (hp : P d σ) (S : Sim x σ s m news) (r : Rl (ads news) v d) : Q v s := h v _ m news d σ hp S (pre_refl _) r
noncomputable def inS (y x : List Nat) : Bool := !(PySem.Builtin.Str.occurrences ⟨x.toArray⟩ ⟨y.toArray⟩ 0 x.length 1).isEmpty
noncomputable def augM (op : Operator) (a b : D) (σ : St) : T D := match op, a, b with
  | .Add, .int i, .int j => .ret (.int (i + j)) σ
  | .Add, .str u, .str v => .need (u.length + v.length ≤ sizeLine) (.ret (.str (u ++ v)) σ)
  | _, _, _ => .bad
noncomputable def truthyM (a : D) (σ : St) : T Kb := match a with
  | .none => .ret .no σ
  | .tt => .ret .yes σ
  | .ff => .ret .no σ
  | .bool b => .ret (.dyn b) σ
  | .int i => .ret (.dyn (!decide (i = 0))) σ
  | .str u => .need (u.length ≤ sizeLine) (.ret (.dyn (!decide (u = []))) σ)
  | _ => .bad
theorem str_app (u v : List Nat) : (⟨u.toArray⟩ ++ ⟨v.toArray⟩ : Str) = ⟨(u ++ v).toArray⟩ := by
  show Str.append _ _ = _
  simp [Str.append]
theorem str_len (u : List Nat) : (⟨u.toArray⟩ : Str).length = u.length := by simp [Str.length]
theorem str_beq (u v : List Nat) : ((⟨u.toArray⟩ : Str) == ⟨v.toArray⟩) = decide (u = v) := by
  rw [Bool.eq_iff_iff]; simp
theorem str_bne (u v : List Nat) : ((⟨u.toArray⟩ : Str) != ⟨v.toArray⟩) = !decide (u = v) := by
  unfold bne; rw [str_beq]
noncomputable def BinS (op : Operator) (a b : D) (σ : St) (t : T D) : Prop := ∀ {x : Fx} {va vb : Value} {news : List (Addr × Obj)}, Rel (ads news) va a → Rel (ads news) vb b → Snd x Rel (binaryOp op va vb) t σ news
noncomputable def binW (op : Operator) (a b : D) (σ : St) : Subtype (BinS op a b σ) := match op, a, b with
  | .Add, .int i, .int j => ⟨.ret (.int (i + j)) σ, by
    intro x va vb news ra rb P hok s Q E m S post
    obtain ⟨t, rfl⟩ := ra
    obtain ⟨u, rfl⟩ := rb
    exact PySem.P.add_int (post.here hok S ⟨_, rfl⟩)⟩
  | .Sub, .int i, .int j => ⟨.ret (.int (i - j)) σ, by
    intro x va vb news ra rb P hok s Q E m S post
    obtain ⟨t, rfl⟩ := ra
    obtain ⟨u, rfl⟩ := rb
    exact PySem.P.sub_int (post.here hok S ⟨_, rfl⟩)⟩
  | .Mult, .int i, .int j => ⟨.need (IntMulOk i j) (.ret (.int (i * j)) σ), by
    intro x va vb news ra rb P hok s Q E m S post
    obtain ⟨t, rfl⟩ := ra
    obtain ⟨u, rfl⟩ := rb
    exact PySem.P.mul_int (post.here hok.2 S ⟨_, rfl⟩) hok.1⟩
  | .FloorDiv, .int i, .int j => ⟨.need (j ≠ 0 ∧ Builtin.divisionGoesByPylong i j = false) (.ret (.int (i.fdiv j)) σ), by
    intro x va vb news ra rb P hok s Q E m S post
    obtain ⟨t, rfl⟩ := ra
    obtain ⟨u, rfl⟩ := rb
    exact floordiv_int hok.1.1 (post.here hok.2 S ⟨_, rfl⟩) (.inl hok.1.2)⟩
  | .Mod, .int i, .int j => ⟨.need (j ≠ 0) (.ret (.int (i.fmod j)) σ), by
    intro x va vb news ra rb P hok s Q E m S post
    obtain ⟨t, rfl⟩ := ra
    obtain ⟨u, rfl⟩ := rb
    exact mod_int' hok.1 (post.here hok.2 S ⟨_, rfl⟩)⟩
  | .RShift, .int i, .int j => ⟨.need (0 ≤ j) (.ret (.int (i.fdiv (2 ^ j.toNat))) σ), by
    intro x va vb news ra rb P hok s Q E m S post
    obtain ⟨t, rfl⟩ := ra
    obtain ⟨u, rfl⟩ := rb
    exact rshift_int hok.1 (post.here hok.2 S ⟨_, rfl⟩)⟩
  | .Add, .str u, .str v => ⟨.need (u.length + v.length ≤ sizeLine) (.ret (.str (u ++ v)) σ), by
    intro x va vb news ra rb P hok s Q E m S post
    obtain ⟨t, rfl⟩ := ra
    obtain ⟨u, rfl⟩ := rb
    refine add_str (fun t' tk => ?_) (by rw [str_len, str_len]; exact hok.1)
    rw [str_app]
    exact post.here hok.2 S ⟨_, rfl⟩⟩
  | _, _, _ => ⟨.bad, by
    intro x va vb news ra rb P hok s Q E m S post
    exact hok.elim⟩
noncomputable def binM (op : Operator) (a b : D) (σ : St) : T D := (binW op a b σ).1
theorem binM_sound {x : Fx} {σ : St} {news : List (Addr × Obj)} {va vb : Value} {a b : D} (op : Operator) (ra : Rel (ads news) va a) (rb : Rel (ads news) vb b) : Snd x Rel (binaryOp op va vb) (binM op a b σ) σ news := (binW op a b σ).2 ra rb
noncomputable def CmpS (op : CmpOp) (a b : D) (σ : St) (t : T D) : Prop := ∀ {x : Fx} {va vb : Value} {news : List (Addr × Obj)}, Rel (ads news) va a → Rel (ads news) vb b → Snd x Rel (compareOp op va vb) t σ news
noncomputable def cmpW (op : CmpOp) (a b : D) (σ : St) : Subtype (CmpS op a b σ) := match op, a, b with
  | .Eq, .int i, .int j => ⟨.ret (.bool (decide (i = j))) σ, by
    intro x va vb news ra rb P hok s Q E m S post
    obtain ⟨t, rfl⟩ := ra; obtain ⟨u, rfl⟩ := rb; exact PySem.P.eq_int (post.here0 hok S rfl)⟩
  | .NotEq, .int i, .int j => ⟨.ret (.bool (!decide (i = j))) σ, by
    intro x va vb news ra rb P hok s Q E m S post
    obtain ⟨t, rfl⟩ := ra; obtain ⟨u, rfl⟩ := rb; exact PySem.P.ne_int (post.here0 hok S rfl)⟩
  | .Lt, .int i, .int j => ⟨.ret (.bool (decide (i < j))) σ, by
    intro x va vb news ra rb P hok s Q E m S post
    obtain ⟨t, rfl⟩ := ra; obtain ⟨u, rfl⟩ := rb; exact PySem.P.lt_int (post.here0 hok S rfl)⟩
  | .Gt, .int i, .int j => ⟨.ret (.bool (decide (j < i))) σ, by
    intro x va vb news ra rb P hok s Q E m S post
    obtain ⟨t, rfl⟩ := ra; obtain ⟨u, rfl⟩ := rb; exact PySem.P.gt_int (post.here0 hok S rfl)⟩
  | .LtE, .int i, .int j => ⟨.ret (.bool (decide (i ≤ j))) σ, by
    intro x va vb news ra rb P hok s Q E m S post
    obtain ⟨t, rfl⟩ := ra; obtain ⟨u, rfl⟩ := rb; exact PySem.P.le_int (post.here0 hok S rfl)⟩
  | .GtE, .int i, .int j => ⟨.ret (.bool (decide (j ≤ i))) σ, by
    intro x va vb news ra rb P hok s Q E m S post
    obtain ⟨t, rfl⟩ := ra; obtain ⟨u, rfl⟩ := rb; exact PySem.P.ge_int (post.here0 hok S rfl)⟩
  | .Eq, .str u, .str v => ⟨.ret (.bool (decide (u = v))) σ, by
    intro x va vb news ra rb P hok s Q E m S post
    obtain ⟨t, rfl⟩ := ra; obtain ⟨u, rfl⟩ := rb; refine eq_str ?_; rw [str_beq]; exact post.here0 hok S rfl⟩
  | .NotEq, .str u, .str v => ⟨.ret (.bool (!decide (u = v))) σ, by
    intro x va vb news ra rb P hok s Q E m S post
    obtain ⟨t, rfl⟩ := ra; obtain ⟨u, rfl⟩ := rb; refine ne_str ?_; rw [str_bne]; exact post.here0 hok S rfl⟩
  | .In, .str u, .str v => ⟨.ret (.bool (inS u v)) σ, by
    intro x va vb news ra rb P hok s Q E m S post
    obtain ⟨t, rfl⟩ := ra; obtain ⟨u, rfl⟩ := rb; refine PySem.P.in_str ?_; rw [str_len]; exact post.here0 hok S rfl⟩
  | .NotIn, .str u, .str v => ⟨.ret (.bool (!inS u v)) σ, by
    intro x va vb news ra rb P hok s Q E m S post
    obtain ⟨t, rfl⟩ := ra; obtain ⟨u, rfl⟩ := rb; refine PySem.P.notIn_str ?_; rw [str_len]; exact post.here0 hok S rfl⟩
  | .Eq, .none, .none => ⟨.ret .tt σ, by
    intro x va vb news ra rb P hok s Q E m S post
    cases ra; cases rb; exact EqNone.eq_none_none (post.here0 hok S rfl)⟩
  | .Eq, .str _, .none => ⟨.ret .ff σ, by
    intro x va vb news ra rb P hok s Q E m S post
    obtain ⟨t, rfl⟩ := ra; cases rb; exact EqNone.eq_str_none (post.here0 hok S rfl)⟩
  | .Eq, .none, .str _ => ⟨.ret .ff σ, by
    intro x va vb news ra rb P hok s Q E m S post
    cases ra; obtain ⟨u, rfl⟩ := rb; exact EqNone.eq_none_str (post.here0 hok S rfl)⟩
  | .NotEq, .none, .none => ⟨.ret .ff σ, by
    intro x va vb news ra rb P hok s Q E m S post
    cases ra; cases rb; exact EqNone.ne_none_none (post.here0 hok S rfl)⟩
  | .Is, .none, .none => ⟨.ret .tt σ, by
    intro x va vb news ra rb P hok s Q E m S post
    cases ra; cases rb; exact is_none_none (post.here0 hok S rfl)⟩
  | .Is, .str _, .none => ⟨.ret .ff σ, by
    intro x va vb news ra rb P hok s Q E m S post
    obtain ⟨t, rfl⟩ := ra; cases rb; exact is_str_none (post.here0 hok S rfl)⟩
  | .Is, .bool _, .none => ⟨.ret .ff σ, by
    intro x va vb news ra rb P hok s Q E m S post
    cases ra; cases rb; exact is_bool_none (post.here0 hok S rfl)⟩
  | .Is, .tt, .none => ⟨.ret .ff σ, by
    intro x va vb news ra rb P hok s Q E m S post
    cases ra; cases rb; exact is_bool_none (post.here0 hok S rfl)⟩
  | .Is, .ff, .none => ⟨.ret .ff σ, by
    intro x va vb news ra rb P hok s Q E m S post
    cases ra; cases rb; exact is_bool_none (post.here0 hok S rfl)⟩
  | .Is, .obj _, .none => ⟨.ret .ff σ, by
    intro x va vb news ra rb P hok s Q E m S post
    obtain ⟨c, _, rfl⟩ := ra; cases rb; exact is_ref_none (post.here0 hok S rfl)⟩
  | .Is, .int _, .none => ⟨.ret .ff σ, by
    intro x va vb news ra rb P hok s Q E m S post
    obtain ⟨t, rfl⟩ := ra; cases rb; exact is_int_none (post.here0 hok S rfl)⟩
  | .IsNot, .int _, .none => ⟨.ret .tt σ, by
    intro x va vb news ra rb P hok s Q E m S post
    obtain ⟨t, rfl⟩ := ra; cases rb; exact isnot_int_none (post.here0 hok S rfl)⟩
  | .IsNot, .none, .none => ⟨.ret .ff σ, by
    intro x va vb news ra rb P hok s Q E m S post
    cases ra; cases rb; exact isnot_none_none (post.here0 hok S rfl)⟩
  | .IsNot, .str _, .none => ⟨.ret .tt σ, by
    intro x va vb news ra rb P hok s Q E m S post
    obtain ⟨t, rfl⟩ := ra; cases rb; exact isnot_str_none (post.here0 hok S rfl)⟩
  | .IsNot, .obj _, .none => ⟨.ret .tt σ, by
    intro x va vb news ra rb P hok s Q E m S post
    obtain ⟨c, _, rfl⟩ := ra; cases rb; exact isnot_ref_none (post.here0 hok S rfl)⟩
  | .IsNot, .type n, .type k => ⟨.ret (.bool (!Nat.beq n.num k.num)) σ, by
    intro x va vb news ra rb P hok s Q E m S post
    cases ra; cases rb
    refine isnot_type ?_
    have e : (Value.type n.name == Value.type k.name) = Nat.beq n.num k.num := by cases n <;> cases k <;> decide +kernel
    rw [e]
    exact post.here0 hok S rfl⟩
  | _, _, _ => ⟨.bad, by
    intro x va vb news ra rb P hok s Q E m S post
    exact hok.elim⟩
noncomputable def cmpM (op : CmpOp) (a b : D) (σ : St) : T D := (cmpW op a b σ).1
theorem cmpM_sound {x : Fx} {σ : St} {news : List (Addr × Obj)} {va vb : Value} {a b : D} (op : CmpOp) (ra : Rel (ads news) va a) (rb : Rel (ads news) vb b) : Snd x Rel (compareOp op va vb) (cmpM op a b σ) σ news := (cmpW op a b σ).2 ra rb
section
variable {x : Fx} {σ : St} {news : List (Addr × Obj)} {va vb : Value} {a b : D}
theorem augM_sound (op : Operator) (ra : Rel (ads news) va a) (rb : Rel (ads news) vb b) : Snd x Rel (inplaceOp op va vb) (augM op a b σ) σ news := by
  intro P hok s Q E m S post
  unfold augM at hok
  split at hok
  all_goals first | (obtain ⟨t, rfl⟩ := ra; obtain ⟨u, rfl⟩ := rb) | exact hok.elim
  · exact PySem.P.iadd_int (post.here hok S ⟨_, rfl⟩)
  · refine iadd_str (fun t' tk => ?_) (by rw [str_len, str_len]; exact hok.1)
    rw [str_app]
    exact post.here hok.2 S ⟨_, rfl⟩
theorem truthyM_sound (ra : Rel (ads news) va a) : Snd x RB (truthy va) (truthyM a σ) σ news := by
  intro P hok s Q E m S post
  unfold truthyM at hok
  split at hok
  · cases ra; exact truthy_none (post.here0 hok S rfl)
  · cases ra; exact wpAny_truthy_bool (post.here0 hok S rfl)
  · cases ra; exact wpAny_truthy_bool (post.here0 hok S rfl)
  · cases ra; exact wpAny_truthy_bool (post.here0 hok S rfl)
  · obtain ⟨t, rfl⟩ := ra; exact PySem.P.truthy_int (post.here0 hok S rfl)
  · obtain ⟨t, rfl⟩ := ra
    have h1 := hok.1
    refine PySem.P.truthy_str (by rw [str_len]; simp only [sizeLine] at h1; omega) ?_
    rename_i u
    have e : (((⟨u.toArray⟩ : Str).length : Int) != 0) = !decide (u = []) := by
      rw [str_len]
      cases u with
      | nil => rfl
      | cons c l => simp [bne]; omega
    rw [e]
    exact post.here hok.2 S rfl
  · exact hok.elim
end
end
end Mine
namespace Mine
noncomputable section
theorem All2.get {α β : Type} {R : α → β → Prop} : ∀ {l : List α} {l' : List β}, All2 R l l' → ∀ {i : Nat} {b : β}, l'[i]? = some b → ∃ a, l[i]? = some a ∧ R a b
  | _, _, .nil, i, b, h => by simp at h
  | _, _, .cons r q, 0, b, h => by simp at h; subst h; exact ⟨_, rfl, r⟩
  | _, _, .cons r q, i + 1, b, h => by simpa using q.get (by simpa using h)
theorem All2.set {α β : Type} {R : α → β → Prop} : ∀ {l : List α} {l' : List β}, All2 R l l' → ∀ (i : Nat) {a : α} {b : β}, R a b → All2 R (l.set i a) (l'.set i b)
  | _, _, .nil, i, a, b, h => .nil
  | _, _, .cons r q, 0, a, b, h => .cons h q
  | _, _, .cons r q, i + 1, a, b, h => .cons r (q.set i h)
theorem All2.append {α β : Type} {R : α → β → Prop} : ∀ {l : List α} {l' : List β}, All2 R l l' → ∀ {k : List α} {k' : List β}, All2 R k k' → All2 R (l ++ k) (l' ++ k')
  | _, _, .nil, _, _, h => h
  | _, _, .cons r q, _, _, h => .cons r (q.append h)
theorem All2.length {α β : Type} {R : α → β → Prop} : ∀ {l : List α} {l' : List β}, All2 R l l' → l.length = l'.length
  | _, _, .nil => rfl
  | _, _, .cons r q => by rw [List.length_cons, List.length_cons, q.length]
section
variable {x : Fx} {σ : St} {s : Shared} {m : Str → Option Value} {news : List (Addr × Obj)}
theorem Sim.heap {h' : Heap} (S : Sim x σ s m news) (F : Fr x.h₀ x.env.locals h' m) (N : News x.h₀ x.env.locals h' news) (k : Nat) : Sim x σ { s with heap := h', toks := k } m news :=
  ⟨F, N, S.nd, S.loc, S.cel, S.obj, S.gens, S.os⟩
theorem Sim.at (S : Sim x σ s m news) {i : Nat} {ao : AO} (h : σ.objs[i]? = some ao) : ∃ a o, news[i]? = some (a, o) ∧ (ads news)[i]? = some a ∧ OM (ads news) o ao ∧ (a, o) ∈ news := by
  obtain ⟨⟨a, o⟩, e, r⟩ := S.obj.get h
  exact ⟨a, o, e, by rw [List.getElem?_map, e]; rfl, r, List.mem_of_getElem? e⟩
theorem upd_set {a : Addr} {o o' : Obj} : ∀ {news : List (Addr × Obj)} {i : Nat}, (ads news).Nodup → news[i]? = some (a, o) → Upd a o o' news (news.set i (a, o'))
  | [], i, _, h => by simp at h
  | p :: r, 0, nd, h => by
    simp at h; subst h
    exact .head fun q hq e => (List.nodup_cons.mp nd).1 (List.mem_map.mpr ⟨q, hq, e⟩)
  | p :: r, i + 1, nd, h => by
    have h' : r[i]? = some (a, o) := by simpa using h
    refine .tail (fun e => (List.nodup_cons.mp nd).1 ?_) (upd_set (List.nodup_cons.mp nd).2 h')
    exact List.mem_map.mpr ⟨_, List.mem_of_getElem? h', e.symm⟩
theorem ads_set {a : Addr} {o o' : Obj} {i : Nat} (h : news[i]? = some (a, o)) : ads (news.set i (a, o')) = ads news := by
  show (news.set i (a, o')).map (·.1) = news.map (·.1)
  rw [List.map_set]
  have e : (news.map (·.1))[i]? = some a := by rw [List.getElem?_map, h]; rfl
  obtain ⟨hl, he⟩ := List.getElem?_eq_some_iff.mp e
  rw [← he]; exact List.set_getElem_self hl
theorem Sim.set {a : Addr} {o o' : Obj} {i : Nat} {ao' : AO} {h' : Heap} (S : Sim x σ s m news) (h : news[i]? = some (a, o)) (F : Fr x.h₀ x.env.locals h' m) (N : News x.h₀ x.env.locals h' (news.set i (a, o'))) (r : OM (ads news) o' ao') (k : Nat) :
    Sim x { σ with objs := σ.objs.set i ao' } { s with heap := h', toks := k } m (news.set i (a, o')) := by
  have e := ads_set (o' := o') h
  refine ⟨F, N, by rw [e]; exact S.nd, fun y d q => by rw [e]; exact S.loc y d q, fun y j q => by rw [e]; exact S.cel y j q, ?_, S.gens, S.os⟩
  rw [e]
  exact S.obj.set i r
theorem pre_append (news : List (Addr × Obj)) (p : Addr × Obj) : ads news <+: ads (news ++ [p]) := ⟨[p.1], by simp [ads]⟩
theorem Sim.push {a : Addr} {o : Obj} {ao : AO} {h' : Heap} (S : Sim x σ s m news) (F : Fr x.h₀ x.env.locals h' m) (N : News x.h₀ x.env.locals h' ((a, o) :: news)) (fr : a ∉ ads news) (r : OM (ads (news ++ [(a, o)])) o ao) (k : Nat) :
    Sim x { σ with objs := σ.objs ++ [ao] } { s with heap := h', toks := k } m (news ++ [(a, o)]) := by
  have pre := pre_append news (a, o)
  refine ⟨F, fun p hp => N p (by rcases List.mem_append.mp hp with q | q; exact .tail _ q; rw [List.mem_singleton.mp q]; exact .head _), ?_, fun y d q => ?_, fun y j q => ?_, ?_, S.gens, S.os⟩
  · show ((news ++ [(a, o)]).map (·.1)).Nodup
    rw [List.map_append, List.nodup_append]
    exact ⟨S.nd, by simp, fun u hu v hv => by simp at hv; subst hv; exact fun e => fr (e ▸ hu)⟩
  · obtain ⟨v, h1, h2⟩ := S.loc y d q; exact ⟨v, h1, h2.mono pre⟩
  · obtain ⟨c, h1, h2⟩ := S.cel y j q
    refine ⟨c, ?_, h2⟩
    obtain ⟨t, e⟩ := pre
    rw [← e, List.getElem?_append_left (List.getElem?_eq_some_iff.mp h1).1]; exact h1
  · exact (all2_mono (fun _ _ q => q.mono pre) S.obj).append (.cons r .nil)
theorem Sim.local {y : Str} {v : Value} {d : D} {h' : Heap} (S : Sim x σ s m news) (F : Fr x.h₀ x.env.locals h' (fun z => if z = y then some v else m z)) (N : News x.h₀ x.env.locals h' news) (r : Rel (ads news) v d) (k : Nat) :
    Sim x { σ with loc := put y d σ.loc } { s with heap := h', toks := k } (fun z => if z = y then some v else m z) news := by
  refine ⟨F, N, S.nd, fun z d' q => ?_, S.cel, S.obj, S.gens, S.os⟩
  dsimp only at q
  rw [lk_put] at q
  by_cases h : z = y
  · rw [if_pos h] at q; cases q; exact ⟨v, if_pos h, r⟩
  · rw [if_neg h] at q
    obtain ⟨v', h1, h2⟩ := S.loc z d' q
    exact ⟨v', (if_neg h).trans h1, h2⟩
end
theorem lk_lookup {β : Type} {y : Str} : ∀ {l : List (Str × β)} {b : β}, lk y l = some b → l.lookup y = some b
  | [], _, h => by cases h
  | p :: r, b, h => by
    obtain ⟨a, c⟩ := p
    unfold lk at h
    rw [List.lookup_cons]
    cases q : Fast.sEq a y with
    | true =>
      rw [q] at h
      have e := Fast.sEq_iff.mp q
      subst e
      simp at h ⊢
      exact h
    | false =>
      rw [q] at h
      have e : (y == a) = false := by
        rw [beq_eq_false_iff_ne]
        intro z
        rw [Fast.sEq_iff.mpr z.symm] at q; cases q
      rw [e]
      exact lk_lookup h
noncomputable def globTab : List (Str × D) := [(S "heappush", .top 733), (S "heappop", .top 740), (S "heapreplace", .top 747), (S "heappushpop", .top 754), (S "_siftdown", .top 761), (S "_siftup", .top 768), (S "Int2AP", .top 775),
  (S "_law_roles", .top 780), (S "_law_read", .top 787), (S "_law_inside", .top 794), (S "_law_spelled", .top 799), (S "_law_laid", .top 804), (S "_law_heard", .top 809), (S "_law_called", .top 816), (S "_law_plain", .top 823), (S "_law_right", .top 828), (S "_law_run", .top 835),
  (S "shlex", .top 722), (S "StringIO", .top 587), (S "BytesIO", .top 340), (S "_index", .top 53), (S "deque", .type .deque)]
noncomputable def bltTab : List (Str × D) := [(S "len", .fn .len), (S "abs", .fn .abs), (S "divmod", .fn .divmod), (S "sorted", .fn .sorted), (S "isinstance", .fn .isinstance), (S "int", .type .int), (S "range", .type .range), (S "type", .type .type), (S "str", .type .str), (S "bool", .type .bool), (S "object", .type .object), (S "IndexError", .type .indexError)]
noncomputable def sameVD (v : Value) (d : D) : Bool := match v, d with
  | .ref a, .top b => Nat.beq a b
  | .type n, .type k => decide (n = k.name)
  | .builtin n, .fn k => decide (n = k.id)
  | _, _ => false
theorem sameVD_rel {v : Value} {d : D} (h : sameVD v d = true) (as : List Addr) : Rel as v d := by
  unfold sameVD at h
  split at h
  · exact congrArg Value.ref (Nat.eq_of_beq_eq_true h)
  · exact congrArg Value.type (of_decide_eq_true h)
  · exact congrArg Value.builtin (of_decide_eq_true h)
  · cases h
theorem globs (P : Params) : (globTab.all fun p => match nsIn (K P) mainGlobals p.1 with | some (some v) => sameVD v p.2 | _ => false) = true := by kernel_rfl
theorem blts (P : Params) : (bltTab.all fun p => match nsIn (K P) mainGlobals p.1, bootBuiltins p.1 with | some none, some v => sameVD v p.2 && !(Fast.sEq p.1 (S "__name__")) | _, _ => false) = true := by
  kernel_rfl
theorem lk_mem {β : Type} {y : Str} : ∀ {l : List (Str × β)} {b : β}, lk y l = some b → (y, b) ∈ l
  | [], _, h => by cases h
  | p :: r, b, h => by
    unfold lk at h
    cases q : Fast.sEq p.1 y with
    | true => rw [q] at h; cases h; have := Fast.sEq_iff.mp q; subst this; exact .head _
    | false => rw [q] at h; exact .tail _ (lk_mem h)
end
end Mine
namespace Mine
noncomputable section
noncomputable def D.refs : D → List Nat
  | .obj i => [i]
  | _ => []
noncomputable def D.ren (ρ : Nat → Nat) : D → D
  | .obj i => .obj (ρ i)
  | d => d
noncomputable def AO.refs : AO → List Nat
  | .inst _ d => [d]
  | .dict es => es.flatMap fun p => p.2.refs
  | .cell (some d) => d.refs
  | .tup ds => ds.flatMap D.refs
  | .it (.list j) _ => [j]
  | _ => []
noncomputable def AO.ren (ρ : Nat → Nat) : AO → AO
  | .inst C d => .inst C (ρ d)
  | .dict es => .dict (es.map fun p => (p.1, p.2.ren ρ))
  | .cell (some d) => .cell (some (d.ren ρ))
  | .tup ds => .tup (ds.map (D.ren ρ))
  | .it (.list j) i => .it (.list (ρ j)) i
  | a => a
theorem Rel.ren {as bs : List Addr} {ρ : Nat → Nat} {v : Value} {d : D} (h : Rel as v d) (k : ∀ j ∈ d.refs, ∀ a, as[j]? = some a → bs[ρ j]? = some a) : Rel bs v (d.ren ρ) := by
  cases d with
  | obj i => obtain ⟨a, e, rfl⟩ := h; exact ⟨a, k i (.head _) a e, rfl⟩
  | _ => exact h
theorem all2_map {α β γ : Type} {R : α → β → Prop} {R' : α → γ → Prop} {f : β → γ} : ∀ {l : List α} {l' : List β}, All2 R l l' → (∀ a b, b ∈ l' → R a b → R' a (f b)) → All2 R' l (l'.map f)
  | _, _, .nil, _ => .nil
  | _, _, .cons r q, h => .cons (h _ _ (.head _) r) (all2_map q fun a b m r => h a b (.tail _ m) r)
theorem OM.ren {as bs : List Addr} {ρ : Nat → Nat} {o : Obj} {ao : AO} (h : OM as o ao) (k : ∀ j ∈ ao.refs, ∀ a, as[j]? = some a → bs[ρ j]? = some a) : OM bs o (ao.ren ρ) := by
  cases ao with
  | inst C d => obtain ⟨a, e, rfl⟩ := h; exact ⟨a, k d (.head _) a e, rfl⟩
  | dict es =>
    obtain ⟨l, n, rfl, h⟩ := h
    exact ⟨l, n, rfl, all2_map h fun e p hp r => ⟨r.1, r.2.ren fun j hj => k j (List.mem_flatMap.mpr ⟨p, hp, hj⟩)⟩⟩
  | cell d =>
    cases d with
    | none => exact h
    | some d =>
      obtain ⟨sl, e', v, e, r⟩ := h
      exact ⟨sl, e', v, e, r.ren k⟩
  | tup ds =>
    obtain ⟨vs, n, rfl, h⟩ := h
    exact ⟨vs, n, rfl, all2_map h fun v d hd r => r.ren fun j hj => k j (List.mem_flatMap.mpr ⟨d, hd, hj⟩)⟩
  | it c i =>
    cases c with
    | list j => obtain ⟨a, e, h⟩ := h; exact ⟨a, k j (.head _) a e, h⟩
    | _ => exact h
  | _ => exact h
noncomputable def pos : List Nat → Nat → Nat
  | [], _ => 0
  | j :: r, i => match Nat.beq j i with
    | true => 0
    | false => pos r i + 1
noncomputable def memN : List Nat → Nat → Bool
  | [], _ => false
  | j :: r, i => match Nat.beq j i with
    | true => true
    | false => memN r i
theorem memN_iff {i : Nat} : ∀ {l : List Nat}, memN l i = true ↔ i ∈ l
  | [] => by simp [memN]
  | j :: r => by
    unfold memN
    cases q : Nat.beq j i with
    | true => have := Nat.eq_of_beq_eq_true q; subst this; simp
    | false =>
      have : i ≠ j := fun e => Nat.ne_of_beq_eq_false q e.symm
      simp [memN_iff (l := r), this]
theorem pos_get {i : Nat} : ∀ {l : List Nat}, i ∈ l → l[pos l i]? = some i
  | [], h => by cases h
  | j :: r, h => by
    unfold pos
    cases q : Nat.beq j i with
    | true => have := Nat.eq_of_beq_eq_true q; subst this; rfl
    | false =>
      have ne : i ≠ j := fun e => Nat.ne_of_beq_eq_false q e.symm
      have : i ∈ r := by simpa [ne] using h
      simpa using pos_get this
theorem pos_lt {i : Nat} {l : List Nat} (h : i ∈ l) : pos l i < l.length := (List.getElem?_eq_some_iff.mp (pos_get h)).1
noncomputable def subN (news : List (Addr × Obj)) (ids : List Nat) : List (Addr × Obj) := ids.map fun i => news.getD i (0, default)
noncomputable def backN (ids : List Nat) (n : Nat) (j : Nat) : Nat := match Nat.blt j ids.length with
  | true => ids.getD j 0
  | false => n + (j - ids.length)
noncomputable def subO (objs : List AO) (ids : List Nat) : List AO := ids.map fun i => (objs.getD i .deq).ren (pos ids)
noncomputable def mergeL {α : Type} (dflt : α) (l : List α) (ids : List Nat) (l' : List α) : List α := ((List.range l.length).map fun i => match memN ids i with | true => l'.getD (pos ids i) dflt | false => l.getD i dflt) ++ l'.drop ids.length
noncomputable def mergeO (objs : List AO) (ids : List Nat) (os' : List AO) : List AO := mergeL .deq objs ids (os'.map (AO.ren (backN ids objs.length)))
theorem getD_of {α : Type} {l : List α} {i : Nat} {a d : α} (h : l[i]? = some a) : l.getD i d = a := by simp [List.getD, h]
theorem some_of_lt {α : Type} {l : List α} {i : Nat} (d : α) (h : i < l.length) : l[i]? = some (l.getD i d) := by simp [List.getD, h]
theorem mergeL_low {α : Type} {d : α} {l l' : List α} {ids : List Nat} {i : Nat} (h : i < l.length) : (mergeL d l ids l')[i]? = some (match memN ids i with | true => l'.getD (pos ids i) d | false => l.getD i d) := by
  unfold mergeL
  rw [List.getElem?_append_left (by simpa using h), List.getElem?_map, List.getElem?_range h]
  rfl
theorem mergeL_high {α : Type} {d : α} {l l' : List α} {ids : List Nat} {j : Nat} : (mergeL d l ids l')[l.length + j]? = l'[ids.length + j]? := by
  unfold mergeL
  rw [List.getElem?_append_right (by simp)]
  simp
theorem mergeL_length {α : Type} {d : α} {l l' : List α} {ids : List Nat} : (mergeL d l ids l').length = l.length + (l'.length - ids.length) := by
  unfold mergeL; simp
theorem all2_of_get {α β : Type} {R : α → β → Prop} : ∀ {l : List α} {l' : List β}, l.length = l'.length → (∀ (i : Nat) (a : α) (b : β), l[i]? = some a → l'[i]? = some b → R a b) → All2 R l l'
  | [], [], _, _ => .nil
  | [], _ :: _, h, _ => by simp at h
  | _ :: _, [], h, _ => by simp at h
  | a :: l, b :: l', h, k => .cons (k 0 a b rfl rfl) (all2_of_get (by simpa using h) fun i a b h1 h2 => k (i + 1) a b (by simpa using h1) (by simpa using h2))
section
variable {x : Fx} {σ : St} {s s' : Shared} {m : Str → Option Value} {news news' : List (Addr × Obj)} {ids : List Nat} {os' : List AO}
theorem sub_at (S : Sim x σ s m news) (hl : ∀ i ∈ ids, i < σ.objs.length) {i : Nat} (hi : i ∈ ids) : ∃ a o, news[i]? = some (a, o) ∧ (ads news)[i]? = some a ∧ news.getD i (0, default) = (a, o) := by
  have e := S.obj.length
  have h : i < news.length := by have := hl i hi; omega
  exact ⟨(news.getD i (0, default)).1, (news.getD i (0, default)).2, some_of_lt _ h, by rw [List.getElem?_map, some_of_lt (0, default) h]; rfl, rfl⟩
theorem ads_sub (S : Sim x σ s m news) (hl : ∀ i ∈ ids, i < σ.objs.length) {i : Nat} (hi : i ∈ ids) {a : Addr} (h : (ads news)[i]? = some a) : (ads (subN news ids))[pos ids i]? = some a := by
  obtain ⟨a', o, e1, e2, e3⟩ := sub_at S hl hi
  rw [h] at e2
  cases e2
  show ((ids.map fun i => news.getD i (0, default)).map (·.1))[pos ids i]? = some a
  rw [List.map_map, List.getElem?_map, pos_get hi]
  show some ((news.getD i (0, default)).1) = some a
  rw [e3]
theorem mem_sub (S : Sim x σ s m news) (hl : ∀ i ∈ ids, i < σ.objs.length) {p : Addr × Obj} (hp : p ∈ subN news ids) : p ∈ news := by
  obtain ⟨i, hi, rfl⟩ := List.mem_map.mp hp
  obtain ⟨a, o, e1, e2, e3⟩ := sub_at S hl hi
  rw [e3]; exact List.mem_of_getElem? e1
theorem nodup_idx {α : Type} {l : List α} (h : l.Nodup) {i j : Nat} (hi : i < l.length) (hj : j < l.length) (e : l[i] = l[j]) : i = j := by
  rcases Nat.lt_trichotomy i j with q | q | q
  · exact absurd e (List.pairwise_iff_getElem.mp h i j hi hj q)
  · exact q
  · exact absurd e.symm (List.pairwise_iff_getElem.mp h j i hj hi q)
theorem nodup_get {l : List Addr} (h : l.Nodup) {i j : Nat} {a : Addr} (hi : l[i]? = some a) (hj : l[j]? = some a) : i = j := by
  obtain ⟨li, ei⟩ := List.getElem?_eq_some_iff.mp hi
  obtain ⟨lj, ej⟩ := List.getElem?_eq_some_iff.mp hj
  exact nodup_idx h li lj (ei.trans ej.symm)
theorem nodup_sub (S : Sim x σ s m news) (nd : ids.Nodup) (hl : ∀ i ∈ ids, i < σ.objs.length) : (ads (subN news ids)).Nodup := by
  show ((ids.map fun i => news.getD i (0, default)).map (·.1)).Nodup
  rw [List.map_map]
  refine List.Pairwise.map _ ?_ (List.Pairwise.and_mem.mp nd)
  intro i j h e
  obtain ⟨hi, hj, ne⟩ := h
  obtain ⟨a, o, e1, e2, e3⟩ := sub_at S hl hi
  obtain ⟨b, u, f1, f2, f3⟩ := sub_at S hl hj
  simp only [Function.comp] at e
  rw [e3, f3] at e
  have e : a = b := e
  subst e
  exact ne (nodup_get S.nd e2 f2)
theorem base_hide (hx : x.Ok) (S : Sim x σ s m news) (hl : ∀ i ∈ ids, i < σ.objs.length) : ∀ b o, x.h₀.get? b = some o → (hideAll s.heap (ads (subN news ids))).get? b = some o := fun b o e =>
  hideAll_get _ (S.F.keep b o e) fun q => by
    obtain ⟨p, hp, rfl⟩ := List.mem_map.mp q
    have := (S.N p (mem_sub S hl hp)).2.2
    rw [e] at this; cases this
theorem call_own (hx : x.Ok) (S : Sim x σ s m news) (nd : ids.Nodup) (hl : ∀ i ∈ ids, i < σ.objs.length) (hc : ∀ i ∈ ids, ∀ j ∈ (σ.objs.getD i .deq).refs, j ∈ ids) :
    Own (hideAll s.heap (ads (subN news ids))) s.heap (subN news ids) (subO σ.objs ids) := by
  refine ⟨fun b o e => of_hideAll _ e, by rw [hideAll_size]; exact Nat.le_refl _, fun p hp => ⟨(S.N p (mem_sub S hl hp)).1, hideAll_none _ (List.mem_map_of_mem hp)⟩, nodup_sub S nd hl, ?_⟩
  refine all2_of_get (by simp [subN, subO]) fun i p ao h1 h2 => ?_
  unfold subN at h1
  unfold subO at h2
  rw [List.getElem?_map] at h1 h2
  cases q : ids[i]? with
  | none => rw [q] at h1; cases h1
  | some k =>
    rw [q] at h1 h2
    cases h1
    cases h2
    have hk : k ∈ ids := List.mem_of_getElem? q
    obtain ⟨a, o, e1, e2, e3⟩ := sub_at S hl hk
    show OM (ads (subN news ids)) (news.getD k (0, default)).2 ((σ.objs.getD k .deq).ren (pos ids))
    rw [e3]
    have ho : σ.objs[k]? = some (σ.objs.getD k .deq) := some_of_lt _ (hl k hk)
    obtain ⟨a', o', f1, f2, r, _⟩ := S.at ho
    rw [e1] at f1
    cases f1
    exact r.ren fun j hj c hc' => ads_sub S hl (hc k hk j hj) hc'
theorem call_back (hx : x.Ok) (S : Sim x σ s m news) (nd : ids.Nodup) (hl : ∀ i ∈ ids, i < σ.objs.length) (O : Own (hideAll s.heap (ads (subN news ids))) s'.heap news' os') (pre : ads (subN news ids) <+: ads news') (hg : s'.gens = #[]) (ho : s'.os = s.os) :
    Sim x { σ with objs := mergeO σ.objs ids os' } s' m (mergeL (0, default) news ids news') ∧ ads news <+: ads (mergeL (0, default) news ids news') ∧
      ∀ v d, Rel (ads news') v d → Rel (ads (mergeL (0, default) news ids news')) v (d.ren (backN ids σ.objs.length)) := by
  have el := S.obj.length
  have el' := O.obj.length
  have sublen : (ads (subN news ids)).length = ids.length := by simp [ads, subN]
  have lenle : ids.length ≤ news'.length := by
    have := pre.length_le
    rw [sublen] at this
    simpa [ads] using this
  -- addresses
  have low : ∀ (i : Nat) (a : Addr), (ads news)[i]? = some a → (ads (mergeL (0, default) news ids news'))[i]? = some a := by
    intro i a h
    have hi : i < news.length := by have := (List.getElem?_eq_some_iff.mp h).1; simpa [ads] using this
    show ((mergeL (0, default) news ids news').map (·.1))[i]? = some a
    rw [List.getElem?_map, mergeL_low hi]
    cases q : memN ids i with
    | true =>
      have hm := memN_iff.mp q
      have e := ads_sub S hl hm h
      obtain ⟨t, ht⟩ := pre
      have e' : (ads news')[pos ids i]? = some a := by
        rw [← ht, List.getElem?_append_left (by rw [sublen]; exact pos_lt hm)]; exact e
      have hlt : pos ids i < news'.length := Nat.lt_of_lt_of_le (pos_lt hm) lenle
      have e'' : (news'.map (·.1))[pos ids i]? = some a := e'
      rw [List.getElem?_map, some_of_lt (0, default) hlt] at e''
      exact e''
    | false =>
      have e'' : (news.map (·.1))[i]? = some a := h
      rw [List.getElem?_map, some_of_lt (0, default) hi] at e''
      exact e''
  have back : ∀ (j : Nat) (a : Addr), (ads news')[j]? = some a → (ads (mergeL (0, default) news ids news'))[backN ids σ.objs.length j]? = some a := by
    intro j a h
    unfold backN
    cases q : Nat.blt j ids.length with
    | true =>
      have hj : j < ids.length := Nat.le_of_ble_eq_true q
      have hi : ids[j]? = some (ids.getD j 0) := some_of_lt 0 hj
      have hm : ids.getD j 0 ∈ ids := List.mem_of_getElem? hi
      obtain ⟨b, o, e1, e2, e3⟩ := sub_at S hl hm
      refine low _ _ ?_
      have z := ads_sub S hl hm e2
      have pj : pos ids (ids.getD j 0) = j := by
        have p1 := pos_get hm
        obtain ⟨l1, g1⟩ := List.getElem?_eq_some_iff.mp p1
        obtain ⟨l2, g2⟩ := List.getElem?_eq_some_iff.mp hi
        exact nodup_idx nd l1 l2 (g1.trans g2.symm)
      rw [pj] at z
      obtain ⟨t, ht⟩ := pre
      rw [← ht, List.getElem?_append_left (by rw [sublen]; exact hj), z] at h
      cases h
      exact e2
    | false =>
      have hj : ids.length ≤ j := by
        apply Nat.le_of_not_lt
        intro hlt
        have : Nat.blt j ids.length = true := Nat.ble_eq_true_of_le hlt
        rw [this] at q; cases q
      show ((mergeL (0, default) news ids news').map (·.1))[σ.objs.length + (j - ids.length)]? = some a
      rw [← el, List.getElem?_map, mergeL_high, show ids.length + (j - ids.length) = j by omega]
      have h' : (news'.map (·.1))[j]? = some a := h
      rw [List.getElem?_map] at h'
      exact h'
  have eqn : ads (mergeL (0, default) news ids news') = ads news ++ ads (news'.drop ids.length) := by
    refine List.ext_getElem? fun i => ?_
    by_cases hi : i < news.length
    · have h1 : (ads news)[i]? = some ((ads news).getD i 0) := some_of_lt 0 (by simpa [ads] using hi)
      rw [low _ _ h1, List.getElem?_append_left (by simpa [ads] using hi), h1]
    · obtain ⟨j, rfl⟩ : ∃ j, i = news.length + j := ⟨i - news.length, by omega⟩
      show ((mergeL (0, default) news ids news').map (·.1))[news.length + j]? = _
      rw [List.getElem?_map, mergeL_high, List.getElem?_append_right (by simp [ads])]
      show _ = ((news'.drop ids.length).map (·.1))[news.length + j - (ads news).length]?
      rw [List.getElem?_map, List.getElem?_drop]
      simp [ads]
  have prefx : ads news <+: ads (mergeL (0, default) news ids news') := ⟨_, eqn.symm⟩
  have kept : ∀ b o, s.heap.get? b = some o → b ∉ ads (subN news ids) → s'.heap.get? b = some o := fun b o e n => O.keep b o (hideAll_get _ e n)
  obtain ⟨oL, es, ep, hL, hLd, hLk, hLf⟩ := S.F.ns
  have nL : x.env.locals ∉ ads (subN news ids) := fun q => by
    obtain ⟨p, hp, e⟩ := List.mem_map.mp q
    exact (S.N p (mem_sub S hl hp)).2.1 e
  have F' : Fr x.h₀ x.env.locals s'.heap m := ⟨⟨oL, es, ep, kept _ _ hL nL, hLd, hLk, hLf⟩, fun b o e => O.keep b o (base_hide hx S hl b o e), S.F.above⟩
  -- what stands where
  have what : ∀ (i : Nat) (p : Addr × Obj), (mergeL (0, default) news ids news')[i]? = some p → s'.heap.get? p.1 = some p.2 ∧ p.1 ≠ x.env.locals ∧ x.h₀.get? p.1 = none := by
    intro i p h
    by_cases hi : i < news.length
    · rw [mergeL_low hi] at h
      cases q : memN ids i with
      | true =>
        rw [q] at h
        have h : news'.getD (pos ids i) (0, default) = p := Option.some.inj h
        have hm := memN_iff.mp q
        have hlt : pos ids i < news'.length := Nat.lt_of_lt_of_le (pos_lt hm) lenle
        have g := some_of_lt (0, default) hlt
        have mem : p ∈ news' := by rw [← h]; exact List.mem_of_getElem? g
        obtain ⟨a, o, e1, e2, e3⟩ := sub_at S hl hm
        have z := low i a e2
        have z' : ((mergeL (0, default) news ids news').map (·.1))[i]? = some a := z
        rw [List.getElem?_map, mergeL_low hi, q] at z'
        have z'' : (news'.getD (pos ids i) (0, default)).1 = a := Option.some.inj z'
        rw [h] at z''
        have w := S.N (a, o) (List.mem_of_getElem? e1)
        exact ⟨(O.own p mem).1, by rw [z'']; exact w.2.1, by rw [z'']; exact w.2.2⟩
      | false =>
        rw [q] at h
        have h : news.getD i (0, default) = p := Option.some.inj h
        have g := some_of_lt (0, default) hi
        have mem : p ∈ news := by rw [← h]; exact List.mem_of_getElem? g
        have w := S.N p mem
        refine ⟨kept _ _ w.1 fun hb => ?_, w.2⟩
        obtain ⟨r, hr, er⟩ := List.mem_map.mp hb
        obtain ⟨k, hk, rfl⟩ := List.mem_map.mp hr
        obtain ⟨a, o, e1, e2, e3⟩ := sub_at S hl hk
        have er : (news.getD k (0, default)).1 = p.1 := er
        rw [e3] at er
        have er : a = p.1 := er
        have f2 : (ads news)[i]? = some p.1 := by
          show (news.map (·.1))[i]? = some p.1
          rw [List.getElem?_map, g, h]; rfl
        rw [er] at e2
        have := nodup_get S.nd e2 f2
        subst this
        rw [memN_iff.mpr hk] at q; cases q
    · obtain ⟨j, rfl⟩ : ∃ j, i = news.length + j := ⟨i - news.length, by omega⟩
      rw [mergeL_high] at h
      have w := O.own p (List.mem_of_getElem? h)
      refine ⟨w.1, fun e => ?_, ?_⟩
      · have := w.2; rw [e, hideAll_get _ hL nL] at this; cases this
      · cases q : x.h₀.get? p.1 with
        | none => rfl
        | some o => have := w.2; rw [base_hide hx S hl _ _ q] at this; cases this
  refine ⟨⟨F', fun p hp => ?_, ?_, fun y d q => ?_, fun y i q => ?_, ?_, hg, ho.trans S.os⟩, prefx, fun v d r => r.ren fun j _ a h => back j a h⟩
  · obtain ⟨i, hi, e⟩ := List.getElem_of_mem hp
    exact what i p (List.getElem?_eq_some_iff.mpr ⟨hi, e⟩)
  · rw [eqn, List.nodup_append]
    obtain ⟨t, ht⟩ := pre
    have nd' := O.nd
    have drp : ads (news'.drop ids.length) = t := by
      show (news'.drop ids.length).map (·.1) = t
      rw [List.map_drop]
      show (ads news').drop ids.length = t
      rw [← ht, ← sublen, List.drop_left]
    rw [← ht, List.nodup_append] at nd'
    refine ⟨S.nd, by rw [drp]; exact nd'.2.1, fun u hu v hv e => ?_⟩
    subst e
    rw [drp] at hv
    obtain ⟨p, hp, rfl⟩ := List.mem_map.mp hu
    by_cases hb : p.1 ∈ ads (subN news ids)
    · exact nd'.2.2 _ hb _ hv rfl
    · have w := (S.N p hp).1
      have mem : p.1 ∈ ads news' := by rw [← ht]; exact List.mem_append_right _ hv
      obtain ⟨r, hr, er⟩ := List.mem_map.mp mem
      have := (O.own r hr).2
      have er : r.1 = p.1 := er
      rw [er, hideAll_get _ w hb] at this; cases this
  · obtain ⟨v, h1, h2⟩ := S.loc y d q
    exact ⟨v, h1, h2.mono prefx⟩
  · obtain ⟨a, h1, h2⟩ := S.cel y i q
    exact ⟨a, low _ _ h1, h2⟩
  · refine all2_of_get ?_ fun i p ao h1 h2 => ?_
    · unfold mergeO
      rw [mergeL_length, mergeL_length, List.length_map, el, el']
    · by_cases hi : i < news.length
      · rw [mergeL_low hi] at h1
        unfold mergeO at h2
        rw [mergeL_low (by omega)] at h2
        cases q : memN ids i with
        | true =>
          rw [q] at h1 h2
          have h1 : news'.getD (pos ids i) (0, default) = p := Option.some.inj h1
          have h2 : (os'.map (AO.ren (backN ids σ.objs.length))).getD (pos ids i) .deq = ao := Option.some.inj h2
          have hm := memN_iff.mp q
          have hlt : pos ids i < news'.length := Nat.lt_of_lt_of_le (pos_lt hm) lenle
          have g := some_of_lt (0, default) hlt
          have g2 : os'[pos ids i]? = some (os'.getD (pos ids i) .deq) := some_of_lt _ (by omega)
          obtain ⟨p', f1, f2⟩ := O.obj.get g2
          rw [g] at f1
          cases f1
          have e2 : (os'.map (AO.ren (backN ids σ.objs.length))).getD (pos ids i) .deq = (os'.getD (pos ids i) .deq).ren (backN ids σ.objs.length) := getD_of (by rw [List.getElem?_map, g2]; rfl)
          rw [← h1, ← h2, e2]
          exact f2.ren fun j _ a h => back j a h
        | false =>
          rw [q] at h1 h2
          have h1 : news.getD i (0, default) = p := Option.some.inj h1
          have h2 : σ.objs.getD i .deq = ao := Option.some.inj h2
          have g := some_of_lt (0, default) hi
          have g2 : σ.objs[i]? = some (σ.objs.getD i .deq) := some_of_lt _ (by omega)
          obtain ⟨p', f1, f2⟩ := S.obj.get g2
          rw [g] at f1
          cases f1
          rw [← h1, ← h2]
          exact f2.mono prefx
      · obtain ⟨j, rfl⟩ : ∃ j, i = news.length + j := ⟨i - news.length, by omega⟩
        rw [mergeL_high] at h1
        unfold mergeO at h2
        rw [el, mergeL_high, List.getElem?_map] at h2
        cases q : os'[ids.length + j]? with
        | none => rw [q] at h2; cases h2
        | some ao' =>
          rw [q] at h2
          cases h2
          obtain ⟨p', f1, f2⟩ := O.obj.get q
          rw [h1] at f1
          cases f1
          exact f2.ren fun j _ a h => back j a h
end
end
end Mine
namespace Mine
noncomputable section
inductive Sp where
  | done (d : D) (os : List AO)
  | br (b : Bool) (t e : Sp)
  | need (p : Prop) (t : Sp)
  | bad
noncomputable abbrev Specs := Addr → List D → List AO → Sp
noncomputable def spT {α : Type} : Sp → (D → List AO → T α) → T α
  | .done d os, k => k d os
  | .br b t e, k => .br b (spT t k) (spT e k)
  | .need p t, k => .need p (spT t k)
  | .bad, _ => .bad
noncomputable def reach (objs : List AO) : Nat → List Nat → List Nat → List Nat
  | 0, _, acc => acc
  | _ + 1, [], acc => acc
  | n + 1, i :: todo, acc => match memN acc i with
    | true => reach objs n todo acc
    | false => reach objs n ((objs.getD i .deq).refs ++ todo) (acc ++ [i])
noncomputable def nodupN : List Nat → Bool
  | [] => true
  | i :: r => !memN r i && nodupN r
noncomputable def allN (l : List Nat) (p : Nat → Bool) : Bool := match l with
  | [] => true
  | i :: r => match p i with
    | true => allN r p
    | false => false
theorem allN_iff {p : Nat → Bool} : ∀ {l : List Nat}, allN l p = true → ∀ i ∈ l, p i = true
  | [], _, _, h => by cases h
  | i :: r, h, j, hj => by
    unfold allN at h
    cases q : p i with
    | false => rw [q] at h; cases h
    | true =>
      rw [q] at h
      rcases List.mem_cons.mp hj with rfl | hj
      · exact q
      · exact allN_iff h j hj
theorem nodupN_iff : ∀ {l : List Nat}, nodupN l = true → l.Nodup
  | [], _ => List.nodup_nil
  | i :: r, h => by
    obtain ⟨h1, h2⟩ := Bool.and_eq_true_iff.mp h
    refine List.nodup_cons.mpr ⟨fun q => ?_, nodupN_iff h2⟩
    rw [memN_iff.mpr q] at h1; cases h1
noncomputable def closedN (ids : List Nat) (args : List D) (objs : List AO) : Bool :=
  nodupN ids && (allN ids fun i => Nat.blt i objs.length) && (allN ids fun i => allN (objs.getD i .deq).refs (memN ids)) && allN (args.flatMap D.refs) (memN ids)
noncomputable def callAt (sp : Specs) (f : Addr) (args : List D) (σ : St) (ids : List Nat) : T D := match closedN ids args σ.objs with
  | false => .bad
  | true => spT (sp f (args.map (D.ren (pos ids))) (subO σ.objs ids)) fun d os' =>
      .call f (args.map (D.ren (pos ids))) (subO σ.objs ids) d os' (.ret (d.ren (backN ids σ.objs.length)) { σ with objs := mergeO σ.objs ids os' })
noncomputable def callM (sp : Specs) (f : Addr) (args : List D) (σ : St) : T D := callAt sp f args σ (reach σ.objs 100 (args.flatMap D.refs) [])
theorem Snd.spT {x : Fx} {ν δ : Type} {Rl : List Addr → ν → δ → Prop} {tree : Sem ν} {σ : St} {news : List (Addr × Obj)} : ∀ {t : Sp} {k : D → List AO → T δ}, (∀ d os, Snd x Rl tree (k d os) σ news) → Snd x Rl tree (spT t k) σ news
  | .done d os, k, h => h d os
  | .br b t e, k, h => Snd.br (fun _ => Snd.spT h) (fun _ => Snd.spT h)
  | .need p t, k, h => fun P hok => Snd.spT h P hok.2
  | .bad, k, h => fun P hok => hok.elim
theorem callM_sound {x : Fx} (hx : x.Ok) {sp : Specs} {f : Addr} {args : List D} {vals : List Value} {σ : St} {news : List (Addr × Obj)} (ra : All2 (Rel (ads news)) vals args) : Snd x Rel (PySem.call (.ref f) vals) (callM sp f args σ) σ news := by
  unfold callM
  generalize reach σ.objs 100 (args.flatMap D.refs) [] = ids
  unfold callAt
  cases hc : closedN ids args σ.objs with
  | false => exact fun P hok => hok.elim
  | true =>
    obtain ⟨hc, h4⟩ := Bool.and_eq_true_iff.mp hc
    obtain ⟨hc, h3⟩ := Bool.and_eq_true_iff.mp hc
    obtain ⟨h1, h2⟩ := Bool.and_eq_true_iff.mp hc
    have nd := nodupN_iff h1
    have hl : ∀ i ∈ ids, i < σ.objs.length := fun i hi => Nat.le_of_ble_eq_true (allN_iff h2 i hi)
    have hcl : ∀ i ∈ ids, ∀ j ∈ (σ.objs.getD i .deq).refs, j ∈ ids := fun i hi j hj => memN_iff.mp (allN_iff (allN_iff h3 i hi) j hj)
    have har : ∀ j ∈ args.flatMap D.refs, j ∈ ids := fun j hj => memN_iff.mp (allN_iff h4 j hj)
    refine Snd.spT fun d os' => ?_
    intro P hok s Q E m S post
    obtain ⟨⟨n, en, hcall⟩, hp⟩ := hok
    have O := call_own hx S nd hl hcl
    have rm := hx.room
    rw [en] at rm
    refine wpAny_call (hcall x.A s _ (subN news ids) vals _ rm (hx.base.keeps (base_hide hx S hl)) O ?_ S.gens ?_)
    · exact all2_map ra fun v a hm r => r.ren fun j hj c hc' => ads_sub S hl (har j (List.mem_flatMap.mpr ⟨a, hm, hj⟩)) hc'
    · intro v s' news' d' os'' e O' pre r hg ho
      obtain ⟨rfl, rfl⟩ := e
      obtain ⟨S', pre', k⟩ := call_back hx S nd hl O' pre hg ho
      exact post v s' m _ _ _ hp S' pre' (k v _ r)
noncomputable def nameM (N : List (Str × NameKind)) (y : Str) (σ : St) : T D := match Fast.sEq y (S "__debug__") || Fast.sEq y (S "__classdict__") with
  | true => .bad
  | false => match lk y N with
    | some .local => (match lk y σ.loc with
      | some d => .ret d σ
      | none => .bad)
    | some .cell => (match lk y σ.cel with
      | some i => (match σ.objs[i]? with
        | some (.cell (some d)) => .ret d σ
        | _ => .bad)
      | none => .bad)
    | some .free => (match lk y σ.cel with
      | some i => (match σ.objs[i]? with
        | some (.cell (some d)) => .ret d σ
        | _ => .bad)
      | none => .bad)
    | some .globalImplicit => (match lk y globTab with
      | some d => .ret d σ
      | none => match lk y bltTab with
        | some d => .ret d σ
        | none => .bad)
    | _ => .bad
theorem sEq_false {a b : Str} (h : Fast.sEq a b = false) : (a == b) = false := by
  rw [beq_eq_false_iff_ne]
  intro e
  rw [Fast.sEq_iff.mpr e] at h; cases h
theorem nameM_sound {x : Fx} (hx : x.Ok) {y : Str} {p : Pos} {σ : St} {news : List (Addr × Obj)} : Snd x Rel (eval (.Name y p) x.env) (nameM x.env.scope.names y σ) σ news := by
  intro P hok s Q E m S post
  unfold nameM at hok
  split at hok
  · exact hok.elim
  rename_i hd
  obtain ⟨hd1, hd2⟩ := Bool.or_eq_false_iff.mp hd
  have hd1 := sEq_false hd1
  have hd2 := sEq_false hd2
  split at hok
  · rename_i hk
    have hk := lk_lookup hk
    split at hok
    · rename_i d hl
      obtain ⟨v, h1, h2⟩ := S.loc y d hl
      exact wpAny_Name (wpAny_loadName_local hx.kind hk S.F.ns h1 (post.here0 hok S h2)) hd1
    · exact hok.elim
  · rename_i hk
    have hk := lk_lookup hk
    split at hok
    · rename_i i hl
      split at hok
      · rename_i d ho
        obtain ⟨a, e1, e2⟩ := S.cel y i hl
        obtain ⟨a', o, f1, f2, r, hm⟩ := S.at ho
        rw [e1] at f2; cases f2
        obtain ⟨sl, e', v, rfl, r⟩ := r
        exact wpAny_Name (wpAny_loadName_cell hx.kind hk e2 ⟨_, (S.N _ hm).1, e'⟩ (post.here0 hok S r)) hd1
      · exact hok.elim
    · exact hok.elim
  · rename_i hk
    have hk := lk_lookup hk
    split at hok
    · rename_i i hl
      split at hok
      · rename_i d ho
        obtain ⟨a, e1, e2⟩ := S.cel y i hl
        obtain ⟨a', o, f1, f2, r, hm⟩ := S.at ho
        rw [e1] at f2; cases f2
        obtain ⟨sl, e', v, rfl, r⟩ := r
        exact wpAny_Name (wpAny_loadName_free hx.kind hk e2 ⟨_, (S.N _ hm).1, e'⟩ (post.here0 hok S r) hd2) hd1
      · exact hok.elim
    · exact hok.elim
  · rename_i hk
    have hk := lk_lookup hk
    obtain ⟨mg, hg⟩ := hx.base.glob
    have hg' : s.heap.Ns x.env.globals mg := by rw [hx.glo]; exact hg.keeps S.F.keep
    split at hok
    · rename_i d hl
      have q := List.all_eq_true.mp (globs x.w.params) _ (lk_mem hl)
      dsimp only at q
      split at q
      · rename_i v e
        exact Calls.Name_function_global hx.kind hk (Calls.loadGlobal_global hg' (mg_of hx.base.kin hg e) (post.here0 hok S (sameVD_rel q _))) hd1
      · cases q
    · split at hok
      · rename_i d hl
        have q := List.all_eq_true.mp (blts x.w.params) _ (lk_mem hl)
        dsimp only at q
        split at q
        · rename_i v e e2
          obtain ⟨q1, q2⟩ := Bool.and_eq_true_iff.mp q
          obtain ⟨mb, hb, hbo⟩ := hx.base.blt
          have hb' : s.heap.Ns x.env.builtins mb := by rw [hx.blt]; exact hb.keeps S.F.keep
          have hn : y ≠ "__name__" := fun e => by
            rw [show Fast.sEq y (Mine.S "__name__") = true from Fast.sEq_iff.mpr e] at q2; cases q2
          exact Calls.Name_function_global hx.kind hk (Calls.loadGlobal_builtin hg' (mg_none_of hx.base.kin hg e) hb' ((hbo y hn).trans e2) (post.here0 hok S (sameVD_rel q1 _))) hd1
        · cases q
      · exact hok.elim
  · exact hok.elim
noncomputable def itemM (a i : D) (σ : St) : T D := match a, i with
  | .str u, .int k => .need (0 ≤ k ∧ k < u.length ∧ u.length ≤ sizeLine) (.ret (.str [u.getD k.toNat 0]) σ)
  | .obj j, .int k => (match σ.objs[j]? with
    | some (.ints xs) => .need (0 ≤ k ∧ k < xs.length ∧ xs.length ≤ sizeLine) (.ret (.int (xs.getD k.toNat 0)) σ)
    | some (.strs xs) => .need (0 ≤ k ∧ k < xs.length ∧ xs.length ≤ sizeLine) (.ret (.str (xs.getD k.toNat [])) σ)
    | _ => .bad)
  | _, _ => .bad
noncomputable def notSlice : Expr → Bool
  | .Slice .. => false
  | _ => true
theorem subscripted_plain {slice : Expr} (h : notSlice slice = true) (o i : Value) : subscripted slice false o i = operate [o, i] (getItem o i) := by
  cases slice <;> first | rfl | cases h
theorem isList_of {h : Heap} {a : Addr} {its : Array Value} {n : Nat} (e : h.get? a = some (listOf its n)) : h.IsList a its := PySem.IsL.isList (n := n) e
theorem all2_get' {α β : Type} {R : α → β → Prop} {l : List α} {l' : List β} (h : All2 R l l') {i : Nat} (d : β) (hi : i < l'.length) : ∃ a, l[i]? = some a ∧ R a (l'.getD i d) := h.get (some_of_lt d hi)
theorem itemM_sound {x : Fx} {va vi : Value} {a i : D} {σ : St} {news : List (Addr × Obj)} {value slice : Expr} (hs : notSlice slice = true) (ra : Rel (ads news) va a) (ri : Rel (ads news) vi i) : Snd x Rel (subscriptTail value slice va vi) (itemM a i σ) σ news := by
  intro P hok s Q E m S post
  unfold itemM at hok
  split at hok
  · rename_i u k
    obtain ⟨t, rfl⟩ := ra
    obtain ⟨t', rfl⟩ := ri
    obtain ⟨⟨h1, h2, h3⟩, hp⟩ := hok
    simp only [sizeLine] at h3
    have hk : k.toNat < u.length := by omega
    refine tail_any (typeIs_str s _ t) F.slot_str_getitem.lookup (PySem.P.getItem_str (c := u.getD k.toNat 0) ?_ ?_ (post.here hp S ⟨_, rfl⟩)) (subscripted_plain hs _ _)
    · simp only [Bool.or_eq_false_iff, decide_eq_false_iff_not]; omega
    · rw [str_len, StrLaws.seqIndex_nonneg h1 h2]
      show (u.toArray)[k.toNat]? = _
      rw [List.getElem?_toArray]
      exact some_of_lt 0 hk
  · rename_i j k
    obtain ⟨c, e, rfl⟩ := ra
    obtain ⟨t', rfl⟩ := ri
    split at hok
    · rename_i xs ho
      obtain ⟨⟨h1, h2, h3⟩, hp⟩ := hok
      simp only [sizeLine] at h3
      obtain ⟨c', o, f1, f2, r, hm⟩ := S.at ho
      rw [e] at f2; cases f2
      obtain ⟨vs, n, rfl, hi⟩ := r
      exact ksa_sub S.N hm hi h1 h2 (by omega) (fun t => post.here0 hp S ⟨_, rfl⟩) (subscripted_plain hs _ _)
    · rename_i xs ho
      obtain ⟨⟨h1, h2, h3⟩, hp⟩ := hok
      simp only [sizeLine] at h3
      obtain ⟨c', o, f1, f2, r, hm⟩ := S.at ho
      rw [e] at f2; cases f2
      obtain ⟨vs, n, rfl, hi⟩ := r
      have hk : k.toNat < xs.length := by omega
      obtain ⟨v, g1, t, g2⟩ := all2_get' hi [] hk
      have hL := isList_of (S.N _ hm).1
      refine tail_any hL.typeIs slot_list_getitem.lookup (wpAny_getItem_list hL h1 (by omega) (x := v) ?_ (post.here0 hp S ⟨t, g2⟩)) (subscripted_plain hs _ _)
      rw [List.getElem?_toArray]; exact g1
    · exact hok.elim
  · exact hok.elim
end
end Mine
namespace Mine
noncomputable section
noncomputable def ins (a : Int) : List Int → List Int
  | [] => [a]
  | b :: r => if a ≤ b then a :: b :: r else b :: ins a r
noncomputable def srt : List Int → List Int
  | [] => []
  | a :: r => ins a (srt r)
theorem ins_perm (a : Int) : ∀ l : List Int, (ins a l).Perm (a :: l)
  | [] => .refl _
  | b :: r => by
    unfold ins
    split
    · exact .refl _
    · exact ((ins_perm a r).cons b).trans (.swap a b r)
theorem srt_perm : ∀ l : List Int, (srt l).Perm l
  | [] => .refl _
  | a :: r => (ins_perm a (srt r)).trans ((srt_perm r).cons a)
theorem ins_asc (a : Int) : ∀ {l : List Int}, l.Pairwise (· ≤ ·) → (ins a l).Pairwise (· ≤ ·)
  | [], _ => by simp [ins]
  | b :: r, h => by
    obtain ⟨h1, h2⟩ := List.pairwise_cons.mp h
    unfold ins
    split
    · rename_i q
      refine List.pairwise_cons.mpr ⟨fun c hc => ?_, h⟩
      rcases List.mem_cons.mp hc with rfl | hc
      · exact q
      · exact Int.le_trans q (h1 c hc)
    · rename_i q
      refine List.pairwise_cons.mpr ⟨fun c hc => ?_, ins_asc a h2⟩
      have := (ins_perm a r).mem_iff.mp hc
      rcases List.mem_cons.mp this with rfl | hc
      · omega
      · exact h1 c hc
theorem srt_asc : ∀ l : List Int, (srt l).Pairwise (· ≤ ·)
  | [] => .nil
  | a :: r => ins_asc a (srt_asc r)
theorem srt_of {l l' : List Int} (p : l'.Perm l) (h : l'.Pairwise (· ≤ ·)) : l' = srt l := lks_uniq (p.trans (srt_perm l).symm) h (srt_asc l)
theorem ints_append {k : Int} {t : Tok} : ∀ {vs : List Value} {ns : List Int}, IntsAre vs ns → IntsAre (vs ++ [.int k t]) (ns ++ [k])
  | _, _, .nil => .cons k t .nil
  | _, _, .cons i u h => .cons i u (ints_append h)
theorem ints_nil {vs : List Value} (h : IntsAre vs []) : vs = [] := by cases h; rfl
theorem ints_cons {vs : List Value} {k : Int} {ns : List Int} (h : IntsAre vs (k :: ns)) : ∃ t vs', vs = .int k t :: vs' ∧ IntsAre vs' ns := by cases h with | cons _ t h => exact ⟨t, _, rfl, h⟩
theorem kf_of : ∀ {vs : List Value} {ns : List Int}, IntsAre vs ns → kf_ints vs = true
  | _, _, .nil => rfl
  | _, _, .cons i u h => (kf_of h : kf_ints _ = true)
theorem lks_nums_of : ∀ {vs : List Value} {ns : List Int}, IntsAre vs ns → lks_nums vs = ns
  | _, _, .nil => rfl
  | _, _, .cons i u h => by show _ :: lks_nums _ = _; rw [lks_nums_of h]
noncomputable def setO (σ : St) (i : Nat) (ao : AO) : St := { σ with objs := σ.objs.set i ao }
noncomputable def pushO (σ : St) (ao : AO) : St := { σ with objs := σ.objs ++ [ao] }
section
variable {x : Fx} {ν δ : Type} {Rl : List Addr → ν → δ → Prop} {news : List (Addr × Obj)} {P : δ → St → Prop} {Q : ν → Shared → Prop} {σ : St} {s : Shared} {m : Str → Option Value} {d : δ} {v : ν} {k i : Nat} {ao : AO} {a : Addr} {o o' : Obj} {h' : Heap}
theorem Post.set (post : Post x Rl news P Q) (hp : P d (setO σ i ao)) (S : Sim x σ s m news) (f : news[i]? = some (a, o)) (F : Fr x.h₀ x.env.locals h' m) (N : News x.h₀ x.env.locals h' (news.set i (a, o'))) (r : OM (ads news) o' ao) (rv : Rl (ads news) v d) : Q v { s with heap := h', toks := k } :=
  post v _ m _ d _ hp (S.set f F N r k) (by rw [ads_set f]; exact pre_refl _) (by rw [ads_set f]; exact rv)
theorem Post.set0 (post : Post x Rl news P Q) (hp : P d (setO σ i ao)) (S : Sim x σ s m news) (f : news[i]? = some (a, o)) (F : Fr x.h₀ x.env.locals h' m) (N : News x.h₀ x.env.locals h' (news.set i (a, o'))) (r : OM (ads news) o' ao) (rv : Rl (ads news) v d) : Q v { s with heap := h' } :=
  post.set (k := s.toks) hp S f F N r rv
theorem Post.push (post : Post x Rl news P Q) (hp : P d (pushO σ ao)) (S : Sim x σ s m news) (fr : a ∉ ads news) (F : Fr x.h₀ x.env.locals h' m) (N : News x.h₀ x.env.locals h' ((a, o) :: news)) (r : OM (ads (news ++ [(a, o)])) o ao) (rv : Rl (ads (news ++ [(a, o)])) v d) : Q v { s with heap := h', toks := k } :=
  post v _ m _ d _ hp (S.push F N fr r k) (pre_append _ _) rv
theorem Post.push0 (post : Post x Rl news P Q) (hp : P d (pushO σ ao)) (S : Sim x σ s m news) (fr : a ∉ ads news) (F : Fr x.h₀ x.env.locals h' m) (N : News x.h₀ x.env.locals h' ((a, o) :: news)) (r : OM (ads (news ++ [(a, o)])) o ao) (rv : Rl (ads (news ++ [(a, o)])) v d) : Q v { s with heap := h' } :=
  post.push (k := s.toks) hp S fr F N r rv
end
theorem lks_asc_of : ∀ {l : List Int}, l.Pairwise (· ≤ ·) → lks_asc l = true
  | [], _ => rfl
  | a :: r, h => by
    obtain ⟨h1, h2⟩ := List.pairwise_cons.mp h
    simp only [lks_asc, Bool.and_eq_true, List.all_eq_true, decide_eq_true_eq]
    exact ⟨h1, lks_asc_of h2⟩
theorem lks_vals_are (t : Nat → Tok) : ∀ (q : List Int) (i : Nat), IntsAre (lks_vals q i t) q
  | [], _ => .nil
  | a :: r, i => .cons a (t i) (lks_vals_are t r (i + 1))
theorem all2_1 {α β : Type} {R : α → β → Prop} {l : List α} {b : β} (h : All2 R l [b]) : ∃ a, l = [a] ∧ R a b := by
  cases h with | cons r q => cases q; exact ⟨_, rfl, r⟩
theorem all2_2 {α β : Type} {R : α → β → Prop} {l : List α} {b c : β} (h : All2 R l [b, c]) : ∃ a d, l = [a, d] ∧ R a b ∧ R d c := by
  cases h with | cons r q => obtain ⟨d, rfl, r'⟩ := all2_1 q; exact ⟨_, _, rfl, r, r'⟩
theorem fresh_of {x : Fx} {σ : St} {s : Shared} {m : Str → Option Value} {news : List (Addr × Obj)} {a : Addr} (h : ∀ q ∈ news, q.1 < a) : a ∉ ads news := fun q => by
  obtain ⟨p, hp, e⟩ := List.mem_map.mp q
  have := h p hp
  have e : p.1 = a := e
  rw [e] at this
  exact Nat.lt_irrefl _ this
theorem new_at {x : Fx} {σ : St} {s : Shared} {m : Str → Option Value} {news : List (Addr × Obj)} (S : Sim x σ s m news) (a : Addr) (o : Obj) : (ads (news ++ [(a, o)]))[σ.objs.length]? = some a := by
  show ((news ++ [(a, o)]).map (·.1))[σ.objs.length]? = some a
  rw [← S.obj.length, List.map_append, List.getElem?_append_right (by simp)]
  simp
noncomputable def BltS (b : B) (args : List D) (σ : St) (t : T D) : Prop := ∀ (x : Fx) (vals : List Value) (news : List (Addr × Obj)), All2 (Rel (ads news)) vals args → Snd x Rel (PySem.call (.builtin b.id) vals) t σ news
noncomputable def bltW (b : B) (args : List D) (σ : St) : Subtype (BltS b args σ) := match b, args with
  | .len, [.str u] => ⟨.need (u.length ≤ sizeLine) (.ret (.int u.length) σ), by
    intro x vals news ra P hok s Q E m S post
    obtain ⟨v, rfl, t, rfl⟩ := all2_1 ra
    obtain ⟨h1, hp⟩ := hok
    simp only [sizeLine] at h1
    refine PySem.P.len_str (by rw [str_len]; omega) ?_
    rw [str_len]
    exact post.here hp S ⟨_, rfl⟩⟩
  | .len, [.obj i] => ⟨(match σ.objs[i]? with
    | some (.ints xs) => .need (xs.length ≤ sizeLine) (.ret (.int xs.length) σ)
    | some (.strs xs) => .need (xs.length ≤ sizeLine) (.ret (.int xs.length) σ)
    | _ => .bad), by
    intro x vals news ra P hok s Q E m S post
    obtain ⟨v, rfl, c, e, rfl⟩ := all2_1 ra
    split at hok
    · rename_i xs ho
      obtain ⟨h1, hp⟩ := hok
      simp only [sizeLine] at h1
      obtain ⟨c', o, f1, f2, r, hm⟩ := S.at ho
      rw [e] at f2; cases f2
      obtain ⟨vs, n, rfl, hi⟩ := r
      have hl := hi.length
      refine len_list (isList_of (S.N _ hm).1) (by rw [List.size_toArray]; omega) ?_
      rw [List.size_toArray, hl]
      exact post.here hp S ⟨_, rfl⟩
    · rename_i xs ho
      obtain ⟨h1, hp⟩ := hok
      simp only [sizeLine] at h1
      obtain ⟨c', o, f1, f2, r, hm⟩ := S.at ho
      rw [e] at f2; cases f2
      obtain ⟨vs, n, rfl, hi⟩ := r
      have hl := hi.length
      refine len_list (isList_of (S.N _ hm).1) (by rw [List.size_toArray]; omega) ?_
      rw [List.size_toArray, hl]
      exact post.here hp S ⟨_, rfl⟩
    · exact hok.elim⟩
  | .append, [.obj i, .int k] => ⟨(match σ.objs[i]? with
    | some (.ints xs) => .need (xs.length ≤ sizeLine) (.ret .none (setO σ i (.ints (xs ++ [k]))))
    | _ => .bad), by
    intro x vals news ra P hok s Q E m S post
    obtain ⟨v, v', rfl, ⟨c, e, rfl⟩, t, rfl⟩ := all2_2 ra
    split at hok
    · rename_i xs ho
      obtain ⟨h1, hp⟩ := hok
      obtain ⟨c', o, f1, f2, r, hm⟩ := S.at ho
      rw [e] at f2; cases f2
      obtain ⟨vs, n, rfl, hi⟩ := r
      refine append_K S.F S.N (upd_set S.nd f1) (fun h' F' N' => ?_) (by rw [List.size_toArray, hi.length]; exact h1)
      exact post.set0 hp S f1 F' N' ⟨vs ++ [.int _ t], n + 1, by simp, ints_append hi⟩ rfl
    · exact hok.elim⟩
  | .append, [.obj i, .str u] => ⟨(match σ.objs[i]? with
    | some (.strs xs) => .need (xs.length ≤ sizeLine) (.ret .none (setO σ i (.strs (xs ++ [u]))))
    | some (.ints []) => .ret .none (setO σ i (.strs [u]))
    | _ => .bad), by
    intro x vals news ra P hok s Q E m S post
    obtain ⟨v, v', rfl, ⟨c, e, rfl⟩, t, rfl⟩ := all2_2 ra
    split at hok
    · rename_i xs ho
      obtain ⟨h1, hp⟩ := hok
      obtain ⟨c', o, f1, f2, r, hm⟩ := S.at ho
      rw [e] at f2; cases f2
      obtain ⟨vs, n, rfl, hi⟩ := r
      refine append_K S.F S.N (upd_set S.nd f1) (fun h' F' N' => ?_) (by rw [List.size_toArray, hi.length]; exact h1)
      exact post.set0 hp S f1 F' N' ⟨vs ++ [.str _ t], n + 1, by simp, hi.append (.cons ⟨t, rfl⟩ .nil)⟩ rfl
    · rename_i ho
      obtain ⟨c', o, f1, f2, r, hm⟩ := S.at ho
      rw [e] at f2; cases f2
      obtain ⟨vs, n, rfl, hi⟩ := r
      have := ints_nil hi
      subst this
      refine append_K S.F S.N (upd_set S.nd f1) (fun h' F' N' => ?_) (by simp)
      exact post.set0 hok S f1 F' N' ⟨[.str _ t], n + 1, by simp, .cons ⟨t, rfl⟩ .nil⟩ rfl
    · exact hok.elim⟩
  | .pop, [.obj i] => ⟨(match σ.objs[i]? with
    | some (.ints xs) => .need (0 < xs.length ∧ xs.length ≤ sizeLine) (.ret (.int (xs.getLastD 0)) (setO σ i (.ints xs.dropLast)))
    | _ => .bad), by
    intro x vals news ra P hok s Q E m S post
    obtain ⟨v, rfl, c, e, rfl⟩ := all2_1 ra
    split at hok
    · rename_i xs ho
      obtain ⟨⟨h1, h2⟩, hp⟩ := hok
      obtain ⟨c', o, f1, f2, r, hm⟩ := S.at ho
      rw [e] at f2; cases f2
      obtain ⟨vs, n, rfl, hi⟩ := r
      have hl := hi.length
      refine kpa_pop S.F S.N (upd_set S.nd f1) hi (by omega) (by omega) fun h' t F' N' hi' => ?_
      exact post.set0 hp S f1 F' N' ⟨vs.dropLast, n + 1, rfl, hi'⟩ ⟨_, rfl⟩
    · exact hok.elim⟩
  | .pop, [.obj i, .int k] => ⟨(match σ.objs[i]? with
    | some (.ints xs) => .need (k = 0 ∧ 0 < xs.length ∧ xs.length ≤ sizeLine) (.ret (.int (xs.headD 0)) (setO σ i (.ints xs.tail)))
    | _ => .bad), by
    intro x vals news ra P hok s Q E m S post
    obtain ⟨v, v', rfl, ⟨c, e, rfl⟩, t, rfl⟩ := all2_2 ra
    split at hok
    · rename_i xs ho
      obtain ⟨⟨rfl, h1, h2⟩, hp⟩ := hok
      obtain ⟨c', o, f1, f2, r, hm⟩ := S.at ho
      rw [e] at f2; cases f2
      obtain ⟨vs, n, rfl, hi⟩ := r
      cases xs with
      | nil => simp at h1
      | cons k xs =>
        obtain ⟨u, vs', rfl, hi'⟩ := ints_cons hi
        have hl := hi'.length
        refine kl_popAt S.F S.N (k := 0) (p := []) (q := vs') (y := .int k u) (by decide) (by rw [List.size_toArray]; exact StrLaws.seqIndex_nonneg (i := 0) (by omega) (by simp)) (by rfl) (upd_set S.nd f1) (by simp at h2 ⊢; omega) fun h' F' N' => ?_
        exact post.set0 hp S f1 F' N' ⟨vs', n + 1, rfl, hi'⟩ ⟨_, rfl⟩
    · exact hok.elim⟩
  | .sort, [.obj i] => ⟨(match σ.objs[i]? with
    | some (.ints xs) => .need (0 < xs.length ∧ xs.length < 64) (.ret .none (setO σ i (.ints (srt xs))))
    | _ => .bad), by
    intro x vals news ra P hok s Q E m S post
    obtain ⟨v, rfl, c, e, rfl⟩ := all2_1 ra
    split at hok
    · rename_i xs ho
      obtain ⟨⟨h1, h2⟩, hp⟩ := hok
      obtain ⟨c', o, f1, f2, r, hm⟩ := S.at ho
      rw [e] at f2; cases f2
      obtain ⟨vs, n, rfl, hi⟩ := r
      have hl := hi.length
      refine lks_sort (q := srt xs) S.F S.N (fun t => upd_set S.nd f1) (by simpa using kf_of hi) ?_ (by cases vs with | nil => simp at hl; omega | cons a r => rfl) (by simp; omega) fun t h' F' N' => ?_
      · unfold lks_ok
        rw [Bool.and_eq_true]
        refine ⟨List.isPerm_iff.mpr ?_, ?_⟩
        · rw [lks_nums_of (by simpa using hi)]
          exact (srt_perm xs).symm
        · exact lks_asc_of (srt_asc xs)
      · exact post.set0 hp S f1 F' N' ⟨lks_vals (srt xs) 0 t, n + 2, rfl, lks_vals_are t _ _⟩ rfl
    · exact hok.elim⟩
  | .sorted, [.obj i] => ⟨(match σ.objs[i]? with
    | some (.ints xs) => .need (xs.length < 64) (.ret (.obj σ.objs.length) (pushO σ (.ints (srt xs))))
    | _ => .bad), by
    intro x vals news ra P hok s Q E m S post
    obtain ⟨v, rfl, c, e, rfl⟩ := all2_1 ra
    split at hok
    · rename_i xs ho
      obtain ⟨h1, hp⟩ := hok
      obtain ⟨c', o, f1, f2, r, hm⟩ := S.at ho
      rw [e] at f2; cases f2
      obtain ⟨vs, n, rfl, hi⟩ := r
      refine kso_sorted S.F S.N (isList_of (S.N _ hm).1) hi h1 fun D vs' ns' c' h' F' N' hfr hi' _ hp' ha _ => ?_
      have en := srt_of hp' ha
      subst en
      exact post.push0 hp S (fresh_of (x := x) (σ := σ) (s := s) (m := m) hfr) F' N' ⟨vs', c', rfl, hi'⟩ ⟨D, new_at S _ _, rfl⟩
    · exact hok.elim⟩
  | _, _ => ⟨.bad, by
    intro x vals news ra P hok s Q E m S post
    exact hok.elim⟩
noncomputable def bltM (b : B) (args : List D) (σ : St) : T D := (bltW b args σ).1
theorem bltM_sound {x : Fx} {b : B} {args : List D} {vals : List Value} {σ : St} {news : List (Addr × Obj)} (ra : All2 (Rel (ads news)) vals args) : Snd x Rel (PySem.call (.builtin b.id) vals) (bltM b args σ) σ news := (bltW b args σ).2 _ _ _ ra
end
end Mine
namespace Mine
noncomputable section
theorem args_int_int_int (n : Int) (u : Tok) : argsOk "int.__int__" ⟨[.int n u], []⟩ := by unfold argsOk; kernel_rfl
section
variable {prog : Program} {w : World} {A : Around} {E : Value → Shared → Prop} {s : Shared}
theorem meets_int_new_int (n : Int) (u : Tok) : Meets (Builtin.«int.__new__» ⟨[.type "int", .int n u], []⟩) (fun _ R s => ∀ t k, R (.ok (.ret (.int n t))) { s with toks := k }) :=
  Meets.of_wp fun prog w A R s hs => by
    obtain ⟨hp, g, d, tk, os⟩ := s
    have f1 := F.conv_sub_int
    have f2 := F.madeHere_int
    have hT : (⟨hp, g, d, tk, os⟩ : Shared).TypeIs (.int n u) "int" := rfl
    repeat (any_goals (first | assumption | wp_step))
    all_goals first | exact ⟨_, rfl, hs _ _⟩ | skip
theorem call_int_int {n : Int} {u : Tok} {Q : Value → Shared → Prop} (h : ∀ t k, Q (.int n t) { s with toks := k }) : wpAny (model prog w) A (call (.type "int") [.int n u]) Q E s :=
  call_int_1 (meets_int_new_int n u) (fun t k => ⟨rfl, h t k⟩)
theorem mro_deq : mroOf (.type "collections.deque") = pure [.type "collections.deque", .type "object"] := by rw [mroOf_type]; kernel_rfl
theorem lookup_deq_new : typeLookup (.type "collections.deque") "__new__" = pure (some (.builtin "collections.deque.__new__")) := by rw [typeLookup_type, builtinLookup_eq_fast]; kernel_rfl
theorem slot_deq_init : PySem.Slot "collections.deque" "__init__" "collections.deque.__init__" := .of (owner := "collections.deque") (n := "__init__") (by rw [typeLookup_type, builtinLookup_eq_fast]; kernel_rfl) (by decide +kernel) (by decide +kernel) (by decide +kernel)
    (by first | exact .inl (by decide +kernel) | exact .inr (by decide +kernel)) (by rw [isSubtype_type]; kernel_rfl)
theorem deq_sub : isSubtype (.type "collections.deque") (.type "collections.deque") = pure true := by rw [isSubtype_type]; kernel_rfl
theorem deq_called : TypeCalled "collections.deque" "collections.deque.__new__" "collections.deque.__init__" :=
  ⟨by decide +kernel, by decide +kernel, ⟨_, _, mro_deq⟩, madeBy_type mro_deq lookup_deq_new (by decide +kernel), by decide +kernel, deq_sub, slot_deq_init⟩
theorem entry_deq_new : entryFor table "collections.deque.__new__" = some Builtin.«collections.deque.__new__» := entryFor_of_fast (by kernel_rfl)
theorem entry_deq_init : entryFor table "collections.deque.__init__" = some Builtin.«collections.deque.__init__» := entryFor_of_fast (by kernel_rfl)
noncomputable abbrev deqObj : Obj := { cls := .type "collections.deque", data := .fields #[.none, rawInt 0] }
theorem meets_deq_new : Meets (Builtin.«collections.deque.__new__» ⟨[.type "collections.deque"], []⟩) (fun _ R s => R (.ok (.ret (.ref s.heap.objs.size))) { s with heap := s.heap.push deqObj }) :=
  Meets.of_wp fun prog w A R s hs => by
    obtain ⟨hp, g, d, tk, os⟩ := s
    have f1 := deq_sub
    unfold Builtin.«collections.deque.__new__»
    refine wpAny_bind (m := Builtin.Deque.newArgs _ _) ?_
    unfold Builtin.Deque.newArgs
    repeat (any_goals (first | assumption | wp_step))
    refine wpAny_of_eq f1 ?_
    refine wpAny_pure ?_
    show wpAny _ _ (Builtin.Deque.new (.type "collections.deque") #[] none >>= fun r => ret r) _ _ _
    have e : Builtin.Deque.new (.type "collections.deque") #[] none = newObj (.type "collections.deque") (.fields #[.none, rawInt 0]) none := by kernel_rfl
    rw [e]
    refine wpAny_bind (wpAny_newObj_type ?_ (by first | trivial | (show _ ≤ _; decide) | seq_fits))
    exact wpAny_pure ⟨_, rfl, hs⟩
theorem meets_deq_init (a : Addr) (h : Heap) (ho : h.get? a = some deqObj) : Meets (Builtin.«collections.deque.__init__» ⟨[.ref a], []⟩) (fun _ R s => s.heap = h ∧ ∀ h', h'.get? a = some deqObj → Heap.SameBut a h h' → R (.ok (.ret .none)) { s with heap := h' }) :=
  Meets.of_wp fun prog w A R s hs => by
    obtain ⟨hh, hs⟩ := hs
    subst hh
    have e : Builtin.«collections.deque.__init__» ⟨[.ref a], []⟩ = (do setField (.ref a) 0 .none; Builtin.Deque.clear (.ref a); ret .none) := by kernel_rfl
    rw [e]
    refine wpAny_bind (wpAny_setField_rec ho (by decide) fun h' h1 h2 => ?_)
    have h1' : h'.get? a = some deqObj := h1
    unfold Builtin.Deque.clear Builtin.Deque.items
    refine wpAny_bind (wpAny_bind (wpAny_bind (wpAny_fieldsOf h1' rfl ?_)))
    refine wpAny_pure ?_
    refine wpAny_pure ?_
    exact wpAny_pure ⟨_, rfl, hs h' h1' h2⟩
theorem call_deq {h₀ : Heap} {L : Addr} {m : Str → Option Value} {news : List (Addr × Obj)} {Q : Value → Shared → Prop} (F : Fr h₀ L s.heap m) (N : News h₀ L s.heap news)
    (h : ∀ h', Fr h₀ L h' m → News h₀ L h' ((s.heap.objs.size, deqObj) :: news) → Q (.ref s.heap.objs.size) { s with heap := h' }) : wpAny (model prog w) A (call (.type "collections.deque") []) Q E s := by
  refine callType_meets (args := []) deq_called (by kernel_rfl) (by kernel_rfl) entry_deq_new entry_deq_init meets_deq_new (Q₁ := fun obj s₁ => obj = .ref s.heap.objs.size ∧ s₁ = { s with heap := s.heap.push deqObj }) ⟨rfl, rfl⟩ ?_
  rintro obj s₁ ⟨rfl, rfl⟩
  have g : (s.heap.push deqObj).get? s.heap.objs.size = some deqObj := Heap.get?_push_size _ rfl
  refine ⟨⟨_, g, rfl⟩, by unfold argsOk; kernel_rfl, _, meets_deq_init _ _ g, rfl, fun h' h1 h2 => ⟨rfl, ?_⟩⟩
  have F1 := F.push deqObj
  have N1 := News.push F N deqObj
  have hn := (N1 _ (.head _)).2
  refine h h' (F1.change h2 hn.1 hn.2) ?_
  have z := news_set (pre := []) N1 (fun _ q => by cases q) (fun p hp e => ?_) h2 h1
  · exact z
  · have := Heap.lt_size (N p hp).1
    rw [e] at this
    exact Nat.lt_irrefl _ this
end
theorem all2_0 {α β : Type} {R : α → β → Prop} {l : List α} (h : All2 R l []) : l = [] := by cases h; rfl
noncomputable def TyS (t₀ : Ty) (args : List D) (σ : St) (t : T D) : Prop := ∀ (x : Fx) (vals : List Value) (news : List (Addr × Obj)), All2 (Rel (ads news)) vals args → Snd x Rel (PySem.call (.type t₀.name) vals) t σ news
noncomputable def tyW (t : Ty) (args : List D) (σ : St) : Subtype (TyS t args σ) := match t, args with
  | .int, [.int i] => ⟨.ret (.int i) σ, by
    intro x vals news ra P hok s Q E m S post
    obtain ⟨v, rfl, t, rfl⟩ := all2_1 ra
    exact call_int_int fun t' k => post.here hok S ⟨_, rfl⟩⟩
  | .type, [.int _] => ⟨.ret (.type .int) σ, by
    intro x vals news ra P hok s Q E m S post
    obtain ⟨v, rfl, t, rfl⟩ := all2_1 ra
    exact call_type_of (Tx := "int") (typeIs_int s _ t) (by decide) (post.here0 hok S rfl)⟩
  | .type, [.str _] => ⟨.ret (.type .str) σ, by
    intro x vals news ra P hok s Q E m S post
    obtain ⟨v, rfl, t, rfl⟩ := all2_1 ra
    exact call_type_of (Tx := "str") (typeIs_str s _ t) (by decide) (post.here0 hok S rfl)⟩
  | .deque, [] => ⟨.ret (.obj σ.objs.length) (pushO σ .deq), by
    intro x vals news ra P hok s Q E m S post
    have := all2_0 ra
    subst this
    refine call_deq S.F S.N fun h' F' N' => ?_
    refine post.push0 hok S ?_ F' N' ⟨rfl, _, rfl, rfl⟩ ⟨_, new_at S _ _, rfl⟩
    exact fresh_of (x := x) (σ := σ) (s := s) (m := m) fun q hq => Heap.lt_size (S.N q hq).1⟩
  | .range, [.int b] => ⟨.ret (.obj σ.objs.length) (pushO σ (.rng 0 b)), by
    intro x vals news ra P hok s Q E m S post
    obtain ⟨v, rfl, t, rfl⟩ := all2_1 ra
    refine call_range_1 ?_
    refine post.push hok S ?_ (S.F.push _) (News.push S.F S.N _) ⟨_, _, _, rfl⟩ ⟨_, new_at S _ _, rfl⟩
    exact fresh_of (x := x) (σ := σ) (s := s) (m := m) fun q hq => Heap.lt_size (S.N q hq).1⟩
  | .range, [.int a, .int b] => ⟨.ret (.obj σ.objs.length) (pushO σ (.rng a b)), by
    intro x vals news ra P hok s Q E m S post
    obtain ⟨v, v', rfl, ⟨t, rfl⟩, t', rfl⟩ := all2_2 ra
    refine call_range_2 ?_
    refine post.push hok S ?_ (S.F.push _) (News.push S.F S.N _) ⟨_, _, _, rfl⟩ ⟨_, new_at S _ _, rfl⟩
    exact fresh_of (x := x) (σ := σ) (s := s) (m := m) fun q hq => Heap.lt_size (S.N q hq).1⟩
  | _, _ => ⟨.bad, by
    intro x vals news ra P hok s Q E m S post
    exact hok.elim⟩
noncomputable def tyM (t : Ty) (args : List D) (σ : St) : T D := (tyW t args σ).1
theorem tyM_sound {x : Fx} {t : Ty} {args : List D} {vals : List Value} {σ : St} {news : List (Addr × Obj)} (ra : All2 (Rel (ads news)) vals args) : Snd x Rel (PySem.call (.type t.name) vals) (tyM t args σ) σ news := (tyW t args σ).2 _ _ _ ra
end
end Mine
namespace Mine
noncomputable section
open Builtin in
theorem ascii_loop (id : String) (l : List UInt8) (h : ∀ c ∈ l, c.toNat < 128) (hl : l.length ≤ sizeLine) : _codecs.runDecoder id _codecs.asciiDecoder none true l.toArray 0 [] = pure ((l.map UInt8.toNat).toArray, l.length) := by
  unfold _codecs.runDecoder
  simp only [Std.Legacy.Range.forIn_eq_forIn_range']
  have key : ∀ (g : Nat → Nat × Array Nat × _codecs.Faults → Sem (ForInStep (Nat × Array Nat × _codecs.Faults))) (st : _codecs.Faults),
      (∀ i p, p < l.length → g i (p, ((l.take p).map UInt8.toNat).toArray, st) = pure (.yield (p + 1, ((l.take (p + 1)).map UInt8.toNat).toArray, st))) →
      ∀ (xs : List Nat) (p : Nat), p + xs.length ≤ l.length → forIn xs (p, ((l.take p).map UInt8.toNat).toArray, st) g = pure (p + xs.length, ((l.take (p + xs.length)).map UInt8.toNat).toArray, st) := by
    intro g st hg xs
    induction xs with
    | nil => intro p hp; rfl
    | cons i r ih =>
      intro p hp
      rw [List.length_cons] at hp
      rw [List.forIn_cons, hg i p (by omega), pure_bind]
      dsimp only
      rw [ih (p + 1) (by omega), List.length_cons, show p + 1 + r.length = p + (r.length + 1) by omega]
  have hs : [:l.toArray.size].size = l.length := by simp [Std.Legacy.Range.size]
  have fin : ∀ (g : Nat → Nat × Array Nat × _codecs.Faults → Sem (ForInStep (Nat × Array Nat × _codecs.Faults))) (st : _codecs.Faults),
      (∀ i p, p < l.length → g i (p, ((l.take p).map UInt8.toNat).toArray, st) = pure (.yield (p + 1, ((l.take (p + 1)).map UInt8.toNat).toArray, st))) →
      (forIn (List.range' 0 l.length) (0, (#[] : Array Nat), st) g >>= fun s => pure (s.2.1, s.1)) = (pure ((l.map UInt8.toNat).toArray, l.length) : Sem (Array Nat × Nat)) := by
    intro g st hg
    have hk := key g st hg (List.range' 0 l.length) 0 (by rw [List.length_range']; omega)
    refine (congrArg (fun m => m >>= fun s => pure (s.2.1, s.1)) hk).trans ?_
    rw [pure_bind, List.length_range', Nat.zero_add, List.take_length]
  rw [hs]
  refine fin _ _ ?_
  · intro i p hp
    have e1 : ¬ ((((l.take p).map UInt8.toNat).toArray).size > sizeLine) := by
      rw [List.size_toArray, List.length_map, List.length_take]; omega
    have e2 : ¬ (p ≥ l.toArray.size) := by rw [List.size_toArray]; omega
    dsimp only
    rw [if_neg e1, if_neg e2]
    have e3 : l.toArray.getD p 0 = l[p] := by simp [Array.getD, hp]
    have e4 : _codecs.asciiDecoder.find true l.toArray p = .text [l[p].toNat] (p + 1) := by
      show (if (l.toArray.getD p 0).toNat < 128 then _codecs.Found.char (l.toArray.getD p 0).toNat (p + 1) else _) = _
      rw [e3, if_pos (h _ (List.getElem_mem hp))]
      rfl
    have e5 : (l.take (p + 1)).map UInt8.toNat = (l.take p).map UInt8.toNat ++ [l[p].toNat] := by
      rw [List.take_add_one, List.map_append, List.getElem?_eq_getElem hp]; rfl
    rw [e4, e5]
    dsimp only
    rw [List.append_toArray]
open Builtin in
theorem dec_road {id : String} {b : Array UInt8} : _codecs.decodeRoad id b (PySem.Str.ofString "ascii") none [] = (_codecs.runDecoder id _codecs.asciiDecoder none true b 0 [] >>= fun r => mkStr ⟨r.1⟩) := by kernel_rfl
open Builtin in
theorem dec_entry {c : UInt8} {cs : List UInt8} {t u : Tok} : «bytes.decode» ⟨[.bytes (c :: cs).toArray t, .str (PySem.Str.ofString "ascii") u], []⟩ = (mkStr (PySem.Str.ofString "utf-8") >>= fun _ => mkStr (PySem.Str.ofString "ascii") >>= fun e => mkStr (PySem.Str.ofString "bytes.decode") >>= fun d =>
    call (.builtin "_codecs.decode.text") [.bytes (c :: cs).toArray t, e, .none, d] >>= fun v => ret v) := by kernel_rfl
open Builtin in
theorem dec_entry0 {t u : Tok} : «bytes.decode» ⟨[.bytes [].toArray t, .str (PySem.Str.ofString "ascii") u], []⟩ = (rule "bytes.decode.empty" >>= fun _ => retStr Str.empty) := by kernel_rfl
noncomputable def asciiOk (b : List UInt8) : Prop := (∀ c ∈ b, c.toNat < 128) ∧ b.length ≤ sizeLine
open Builtin in
theorem meets_ascii (b : List UInt8) (t u : Tok) (h : asciiOk b) : Meets («bytes.decode» ⟨[.bytes b.toArray t, .str (PySem.Str.ofString "ascii") u], []⟩) (fun _ R s => ∀ t' k, R (.ok (.ret (.str ⟨(b.map UInt8.toNat).toArray⟩ t'))) { s with toks := k }) := by
  refine .of_wp fun prog w A R s hS => ?_
  cases b with
  | nil =>
    rw [dec_entry0]
    refine wpAny_bind (wpAny_rule ?_)
    exact wpAny_bind (wpAny_mkStr (wpAny_pure ⟨_, rfl, hS _ _⟩) (by decide))
  | cons c cs =>
    rw [dec_entry]
    refine wpAny_bind (wpAny_mkStr ?_ (by decide))
    refine wpAny_bind (wpAny_mkStr ?_ (by decide))
    refine wpAny_bind (wpAny_mkStr ?_ (by decide))
    refine wpAny_bind (call_function_meets KBd.kind_text KBd.plain_text KBd.entry_text (KBd.args_text _ _ _ _) (S := fun _ R s => ∀ t' k, R (.ok (.ret (.str ⟨((c :: cs).map UInt8.toNat).toArray⟩ t'))) { s with toks := k }) ?_ fun t' k => wpAny_pure ⟨_, rfl, hS _ _⟩)
    refine .of_wp fun prog w A R s hS => ?_
    show wpAny _ _ (Bytes.bytesLike _ (.bytes (c :: cs).toArray t) >>= fun r => _) _ _ s
    refine wpAny_bind (wpAny_of_eq KBd.like_eq ?_)
    refine wpAny_bind (wpAny_of_eq KBd.held_eq ?_)
    show wpAny _ _ (_codecs.decodeRoad _ (c :: cs).toArray (PySem.Str.ofString "ascii") none [] >>= fun v => _) _ _ s
    rw [dec_road, ascii_loop _ _ h.1 h.2]
    refine wpAny_bind (wpAny_bind (wpAny_pure ?_))
    exact wpAny_mkStr (wpAny_pure ⟨_, rfl, hS _ _⟩) (by rw [str_len, List.length_map]; exact h.2)
end
end Mine
namespace Mine
noncomputable section
noncomputable def strsW (sep : List Nat) (xs : List (List Nat)) : Nat := (xs.map List.length).sum + xs.length * sep.length
noncomputable def glue (sep : List Nat) (xs : List (List Nat)) : List Nat := (xs.drop 1).foldl (fun acc p => acc ++ sep ++ p) (xs.headD [])
theorem glue_fold (sep : List Nat) : ∀ (xs : List (List Nat)) (acc : List Nat), (xs.map fun x => (⟨x.toArray⟩ : Str)).foldl (fun acc p => acc ++ sep.toArray ++ p.cps) acc.toArray = (xs.foldl (fun acc p => acc ++ sep ++ p) acc).toArray
  | [], _ => rfl
  | x :: r, acc => by
    rw [List.map_cons, List.foldl_cons, List.foldl_cons, ← glue_fold sep r]
    congr 1
    simp
theorem glue_join (sep : List Nat) (xs : List (List Nat)) : Txt.join ⟨sep.toArray⟩ (xs.map fun x => ⟨x.toArray⟩) = ⟨(glue sep xs).toArray⟩ := by
  unfold Txt.join PySem.Builtin.Str.glued glue
  cases xs with
  | nil => rfl
  | cons x r =>
    show (⟨_⟩ : Str) = _
    congr 1
    exact glue_fold sep r x
theorem strs_are : ∀ {vs : List Value} {xs : List (List Nat)}, All2 (fun v (x : List Nat) => ∃ t, v = Value.str ⟨x.toArray⟩ t) vs xs → StrsAre vs (xs.map fun x => ⟨x.toArray⟩)
  | _, _, .nil => .nil
  | _, _, .cons ⟨t, e⟩ q => by subst e; exact .cons _ t (strs_are q)
noncomputable def occ (u v : List Nat) : List Nat := PySem.Builtin.Str.occurrences ⟨u.toArray⟩ ⟨v.toArray⟩ 0 u.length 1
noncomputable def isAscii (v : List Nat) : Prop := v = [97, 115, 99, 105, 105]
noncomputable def blnW (b : B) (args : List D) (σ : St) : Subtype (BltS b args σ) := match b, args with
  | .abs, [.int i] => ⟨.ret (.int (if i < 0 then -i else i)) σ, by
    intro x vals news ra P hok s Q E m S post
    obtain ⟨v, rfl, t, rfl⟩ := all2_1 ra
    exact call_abs_int fun u tk => post.here hok S ⟨_, rfl⟩⟩
  | .divmod, [.int i, .int j] => ⟨.need (j ≠ 0 ∧ Builtin.divisionGoesByPylong i j = false) (.ret (.obj σ.objs.length) (pushO σ (.tup [.int (i.fdiv j), .int (i.fmod j)]))), by
    intro x vals news ra P hok s Q E m S post
    obtain ⟨v, v', rfl, ⟨t, rfl⟩, t', rfl⟩ := all2_2 ra
    obtain ⟨⟨h1, h2⟩, hp⟩ := hok
    refine divmod_N S.F S.N h1 (fun h' F' N' => ?_) (.inl h2)
    refine post.push hp S ?_ F' N' ⟨[_, _], 0, rfl, .cons ⟨_, rfl⟩ (.cons ⟨_, rfl⟩ .nil)⟩ ⟨_, new_at S _ _, rfl⟩
    exact fresh_of (x := x) (σ := σ) (s := s) (m := m) fun q hq => Heap.lt_size (S.N q hq).1⟩
  | .isinstance, [.str _, .type .str] => ⟨.ret .tt σ, by
    intro x vals news ra P hok s Q E m S post
    obtain ⟨v, v', rfl, ⟨t, rfl⟩, rfl⟩ := all2_2 ra
    exact IsiPair.str_str (post.here0 hok S rfl)⟩
  | .join, [.str u, .obj i] => ⟨(match σ.objs[i]? with
    | some (.strs xs) => .need (strsW u xs ≤ sizeLine) (.ret (.str (glue u xs)) σ)
    | some (.ints []) => .ret (.str []) σ
    | _ => .bad), by
    intro x vals news ra P hok s Q E m S post
    obtain ⟨v, v', rfl, ⟨t, rfl⟩, c, e, rfl⟩ := all2_2 ra
    split at hok
    · rename_i xs ho
      obtain ⟨h1, hp⟩ := hok
      simp only [sizeLine] at h1
      obtain ⟨c', o, f1, f2, r, hm⟩ := S.at ho
      rw [e] at f2; cases f2
      obtain ⟨vs, n, rfl, hi⟩ := r
      refine join_list (isList_of (S.N _ hm).1) (strs_are hi) ?_ fun t' k => ?_
      · rw [List.map_map, List.length_map, str_len]
        unfold strsW at h1
        have : (xs.map (Str.length ∘ fun x => (⟨x.toArray⟩ : Str))) = xs.map List.length := List.map_congr_left fun y _ => str_len y
        rw [this]
        omega
      · rw [glue_join]
        exact post.here hp S ⟨_, rfl⟩
    · rename_i ho
      obtain ⟨c', o, f1, f2, r, hm⟩ := S.at ho
      rw [e] at f2; cases f2
      obtain ⟨vs, n, rfl, hi⟩ := r
      have := ints_nil hi
      subst this
      refine join_list (ys := []) (isList_of (S.N _ hm).1) .nil (by simp) fun t' k => ?_
      exact post.here hok S ⟨_, rfl⟩
    · exact hok.elim⟩
  | .index, [.str u, .str v] => ⟨.need (occ u v ≠ []) (.ret (.int ((occ u v).headD 0)) σ), by
    intro x vals news ra P hok s Q E m S post
    obtain ⟨v, v', rfl, ⟨t, rfl⟩, t', rfl⟩ := all2_2 ra
    obtain ⟨h1, hp⟩ := hok
    cases ho : occ u v with
    | nil => exact absurd ho h1
    | cons i rest =>
      rw [ho] at hp
      refine PySem.SC.index (i := i) (rest := rest) (by rw [str_len]; exact ho) ?_
      exact post.here hp S ⟨_, rfl⟩⟩
  | .decode, [.bytes u, .str v] => ⟨.need (isAscii v ∧ asciiOk u) (.ret (.str (u.map UInt8.toNat)) σ), by
    intro x vals news ra P hok s Q E m S post
    obtain ⟨v, v', rfl, ⟨t, rfl⟩, t', rfl⟩ := all2_2 ra
    obtain ⟨⟨h1, h2⟩, hp⟩ := hok
    cases h1
    refine call_meets FB.slot_bytes_decode (typeIs_bytes _ _ _) FB.entry_bytes_decode ?_ (meets_ascii _ t t' h2) fun t2 k => ?_
    · unfold argsOk; kernel_rfl
    · exact post.here hp S ⟨_, rfl⟩⟩
  | b, args => ⟨bltM b args σ, by
    intro x vals news ra P hok s Q E m S post
    exact bltM_sound ra P hok s Q E m S post⟩
noncomputable def bltN (b : B) (args : List D) (σ : St) : T D := (blnW b args σ).1
theorem bltN_sound {x : Fx} {b : B} {args : List D} {vals : List Value} {σ : St} {news : List (Addr × Obj)} (ra : All2 (Rel (ads news)) vals args) : Snd x Rel (PySem.call (.builtin b.id) vals) (bltN b args σ) σ news := (blnW b args σ).2 _ _ _ ra
end
end Mine
namespace Mine
noncomputable section
noncomputable def attrTab : List (Addr × Str) := (["instream", "infile", "posix", "eof", "commenters", "wordchars", "whitespace", "whitespace_split", "quotes", "escape", "escapedquotes", "state", "pushback", "lineno", "debug", "token", "filestack", "source", "_punctuation_chars"].map fun n => ((722 : Addr), S n)) ++ (["_StringIO__newline", "_StringIO__buf", "_StringIO__pos"].map fun n => ((587 : Addr), S n))
noncomputable def methTab : List (Addr × Str × Addr) := [(722, S "get_token", 683), (722, S "read_token", 690), (587, S "read", 533), (587, S "_StringIO__check", 371), (587, S "_StringIO__translated", 364)]
noncomputable def fnTab : List Addr := [53, 80, 357, 364, 371, 533, 646, 653, 683, 690, 733, 740, 747, 754, 761, 768, 775, 780, 787, 794, 799, 804, 809, 816, 823, 828, 835, 842]
noncomputable def has2 (C : Addr) (y : Str) : List (Addr × Str) → Bool
  | [] => false
  | p :: r => match Nat.beq p.1 C && Fast.sEq p.2 y with
    | true => true
    | false => has2 C y r
noncomputable def lk2 (C : Addr) (y : Str) : List (Addr × Str × Addr) → Option Addr
  | [] => none
  | p :: r => match Nat.beq p.1 C && Fast.sEq p.2.1 y with
    | true => some p.2.2
    | false => lk2 C y r
theorem has2_mem {C : Addr} {y : Str} : ∀ {l : List (Addr × Str)}, has2 C y l = true → (C, y) ∈ l
  | [], h => by cases h
  | p :: r, h => by
    unfold has2 at h
    cases q : Nat.beq p.1 C && Fast.sEq p.2 y with
    | true =>
      obtain ⟨q1, q2⟩ := Bool.and_eq_true_iff.mp q
      have e1 := Nat.eq_of_beq_eq_true q1
      have e2 := Fast.sEq_iff.mp q2
      obtain ⟨a, b⟩ := p
      cases e1; cases e2; exact .head _
    | false => rw [q] at h; exact .tail _ (has2_mem h)
theorem lk2_mem {C f : Addr} {y : Str} : ∀ {l : List (Addr × Str × Addr)}, lk2 C y l = some f → (C, y, f) ∈ l
  | [], h => by cases h
  | p :: r, h => by
    unfold lk2 at h
    cases q : Nat.beq p.1 C && Fast.sEq p.2.1 y with
    | true =>
      rw [q] at h
      obtain ⟨q1, q2⟩ := Bool.and_eq_true_iff.mp q
      have e1 := Nat.eq_of_beq_eq_true q1
      have e2 := Fast.sEq_iff.mp q2
      obtain ⟨a, b, c⟩ := p
      cases e1; cases e2; cases h; exact .head _
    | false => rw [q] at h; exact .tail _ (lk2_mem h)
noncomputable def attrOkB (P : Params) (C : Addr) (y : Str) : Bool := plainGet (K P) C y && hasDictIn (K P) C && (match findIn (K P) (.ref C) y with | some attr => noGet (K P) attr | none => false) &&
  (findIn (K P) (.ref C) "__setattr__" == some (some (.builtin "object.__setattr__"))) && plainOver (K P) C && (takerIn (K P) C y == some none)
theorem attrs_ok (P : Params) : (attrTab.all fun p => attrOkB P p.1 p.2) = true := by kernel_rfl
theorem meths_ok (P : Params) : (methTab.all fun p => plainGet (K P) p.1 p.2.1 && (findIn (K P) (.ref p.1) p.2.1 == some (some (.ref p.2.2))) && isFn (K P) (.ref p.2.2)) = true := by kernel_rfl
theorem fns_ok (P : Params) : (fnTab.all fun a => fnIn (K P) a) = true := by kernel_rfl
structure AttrOk (P : Params) (C : Addr) (y : Str) : Prop where
  get : plainGet (K P) C y = true
  dict : hasDictIn (K P) C = true
  own : ∃ attr, findIn (K P) (.ref C) y = some attr ∧ noGet (K P) attr = true
  set : findIn (K P) (.ref C) "__setattr__" = some (some (.builtin "object.__setattr__"))
  over : plainOver (K P) C = true
  taker : takerIn (K P) C y = some none
theorem attr_ok {P : Params} {C : Addr} {y : Str} (h : has2 C y attrTab = true) : AttrOk P C y := by
  have q := List.all_eq_true.mp (attrs_ok P) _ (has2_mem h)
  unfold attrOkB at q
  obtain ⟨q, q6⟩ := Bool.and_eq_true_iff.mp q
  obtain ⟨q, q5⟩ := Bool.and_eq_true_iff.mp q
  obtain ⟨q, q4⟩ := Bool.and_eq_true_iff.mp q
  obtain ⟨q, q3⟩ := Bool.and_eq_true_iff.mp q
  obtain ⟨q1, q2⟩ := Bool.and_eq_true_iff.mp q
  refine ⟨q1, q2, ?_, beq_iff_eq.mp q4, q5, beq_iff_eq.mp q6⟩
  split at q3
  · rename_i attr e; exact ⟨attr, e, q3⟩
  · cases q3
noncomputable def okVal : D → Bool
  | .fn _ => false
  | _ => true
theorem handed_of {as : List Addr} {v : Value} {d : D} (h : okVal d = true) (r : Rel as v d) : handedIn v = true := by
  cases d with
  | fn b => cases h
  | none => cases r; rfl
  | tt => cases r; rfl
  | ff => cases r; rfl
  | bool b => cases r; rfl
  | int i => obtain ⟨t, rfl⟩ := r; rfl
  | str x => obtain ⟨t, rfl⟩ := r; rfl
  | bytes b => obtain ⟨t, rfl⟩ := r; rfl
  | obj i => obtain ⟨a, _, rfl⟩ := r; rfl
  | top a => cases r; rfl
  | type n => cases r; rfl
noncomputable abbrev EM (as : List Addr) : DictEntry → Str × D → Prop := fun e p => (∃ t, e.key = .str p.1 t) ∧ Rel as e.val p.2
theorem getL_some {as : List Addr} {y : Str} {d : D} : ∀ {l : List DictEntry} {es : List (Str × D)}, All2 (EM as) l es → lk y es = some d → ∃ v, getL y l = some (some v) ∧ Rel as v d
  | _, _, .nil, h => by cases h
  | e :: l, p :: es, .cons r q, h => by
    obtain ⟨⟨t, ek⟩, rv⟩ := r
    unfold lk at h
    unfold getL
    rw [List.find?_cons]
    cases z : Fast.sEq p.1 y with
    | true =>
      rw [z] at h; cases h
      have e1 : e.key.isStr y = true := by rw [ek]; show (p.1 == y) = true; rw [Fast.sEq_iff.mp z]; exact beq_self_eq_true _
      rw [e1]
      exact ⟨e.val, rfl, rv⟩
    | false =>
      rw [z] at h
      have e1 : e.key.isStr y = false := by rw [ek]; exact sEq_false z
      rw [e1]
      obtain ⟨v, g, rv'⟩ := getL_some q h
      refine ⟨v, ?_, rv'⟩
      unfold getL at g
      split at g
      · rename_i e' he; dsimp only; rw [he]; exact g
      · rename_i he; split at g <;> cases g
theorem getL_none {as : List Addr} {y : Str} : ∀ {l : List DictEntry} {es : List (Str × D)}, All2 (EM as) l es → lk y es = none → l.find? (·.key.isStr y) = none ∧ l.any (·.refKey) = false
  | _, _, .nil, h => ⟨rfl, rfl⟩
  | e :: l, p :: es, .cons r q, h => by
    obtain ⟨⟨t, ek⟩, rv⟩ := r
    unfold lk at h
    cases z : Fast.sEq p.1 y with
    | true => rw [z] at h; cases h
    | false =>
      rw [z] at h
      obtain ⟨h1, h2⟩ := getL_none q h
      have e1 : e.key.isStr y = false := by rw [ek]; exact sEq_false z
      rw [List.find?_cons, e1, List.any_cons, h2]
      refine ⟨h1, ?_⟩
      have : e.refKey = false := by unfold DictEntry.refKey; rw [ek]
      rw [this]; rfl
theorem getL_none' {as : List Addr} {y : Str} {l : List DictEntry} {es : List (Str × D)} (q : All2 (EM as) l es) (h : lk y es = none) : getL y l = some none := by
  obtain ⟨h1, h2⟩ := getL_none q h
  unfold getL
  rw [h1]; dsimp only; rw [h2]; rfl
theorem putL_all {as : List Addr} {y : Str} {hsh : Int} {t : Tok} {v : Value} {d : D} (rv : Rel as v d) : ∀ {l : List DictEntry} {es : List (Str × D)}, All2 (EM as) l es → All2 (EM as) (putL y hsh (.str y t) v l) (put y d es)
  | _, _, .nil => .cons ⟨⟨t, rfl⟩, rv⟩ .nil
  | e :: l, p :: es, .cons r q => by
    obtain ⟨⟨u, ek⟩, rv'⟩ := r
    unfold putL put
    cases z : Fast.sEq p.1 y with
    | true =>
      have e1 : e.key.isStr y = true := by rw [ek]; show (p.1 == y) = true; rw [Fast.sEq_iff.mp z]; exact beq_self_eq_true _
      rw [if_pos e1]
      exact .cons ⟨⟨u, ek⟩, rv⟩ q
    | false =>
      have e1 : ¬ e.key.isStr y = true := by rw [ek]; show ¬ (p.1 == y) = true; rw [sEq_false z]; exact Bool.false_ne_true
      rw [if_neg e1]
      exact .cons ⟨⟨u, ek⟩, rv'⟩ (putL_all rv q)
theorem getL_isSome {as : List Addr} {y : Str} {l : List DictEntry} {es : List (Str × D)} (q : All2 (EM as) l es) : (getL y l).isSome = true := by
  cases h : lk y es with
  | some d => obtain ⟨v, e, _⟩ := getL_some q h; rw [e]; rfl
  | none => rw [getL_none' q h]; rfl
noncomputable def attrM (a : D) (y : Str) (σ : St) : T D := match a with
  | .obj i => (match σ.objs[i]? with
    | some (.inst C j) => (match has2 C y attrTab, σ.objs[j]? with
      | true, some (.dict es) => (match lk y es with
        | some d => (match okVal d with
          | true => .ret d σ
          | false => .bad)
        | none => .bad)
      | _, _ => .bad)
    | _ => .bad)
  | _ => .bad
noncomputable def setAttrM (a : D) (y : Str) (v : D) (σ : St) : T Unit := match a with
  | .obj i => (match σ.objs[i]? with
    | some (.inst C j) => (match has2 C y attrTab, σ.objs[j]? with
      | true, some (.dict es) => (match Nat.blt es.length 900 with
        | true => .ret () (setO σ j (.dict (put y v es)))
        | false => .bad)
      | _, _ => .bad)
    | _ => .bad)
  | _ => .bad
theorem put_length {β : Type} (y : Str) (d : β) : ∀ l : List (Str × β), (put y d l).length ≤ l.length + 1
  | [] => by simp [put]
  | p :: r => by
    unfold put
    cases Fast.sEq p.1 y with
    | true => simp
    | false => have := put_length y d r; simp; omega
section
variable {x : Fx} {σ : St} {news : List (Addr × Obj)} {va : Value} {a : D} {y : Str}
theorem inst_at {s : Shared} {m : Str → Option Value} {i j : Nat} {C : Addr} {es : List (Str × D)} (S : Sim x σ s m news) (h1 : σ.objs[i]? = some (.inst C j)) (h2 : σ.objs[j]? = some (.dict es)) :
    ∃ c dx l n, (ads news)[i]? = some c ∧ (c, instObj C dx) ∈ news ∧ news[j]? = some (dx, dictOf l n) ∧ All2 (EM (ads news)) l es ∧ InstAt s.heap c (instObj C dx) C (some (dictOf l n)) := by
  obtain ⟨c, o, f1, f2, r, hm⟩ := S.at h1
  obtain ⟨dx, e, rfl⟩ := r
  obtain ⟨c', o', g1, g2, r', hm'⟩ := S.at h2
  rw [e] at g2; cases g2
  obtain ⟨l, n, rfl, hl⟩ := r'
  exact ⟨c, dx, l, n, f2, hm, g1, hl, InstAt.of_news S.N hm hm'⟩
theorem attrM_sound (hx : x.Ok) (ra : Rel (ads news) va a) (ex : Bool) : Snd x Rel (getAttr va y ex) (attrM a y σ) σ news := by
  intro P hok s Q E m S post
  unfold attrM at hok
  split at hok
  · obtain ⟨c, e, rfl⟩ := ra
    split at hok
    · rename_i C j h1
      split at hok
      · rename_i es ht h2
        split at hok
        · rename_i d hl
          split at hok
          · rename_i hv
            obtain ⟨c', dx, l, n, f, hm, g, hal, I⟩ := inst_at S h1 h2
            rw [e] at f; cases f
            obtain ⟨v, gl, rv⟩ := getL_some hal hl
            have A := attr_ok (P := x.w.params) ht
            obtain ⟨attr, o1, o2⟩ := A.own
            exact get_own S.F hx.base.kin I A.get A.dict o1 o2 gl (handed_of hv rv) (post.here hok S rv)
          · exact hok.elim
        · exact hok.elim
      · exact hok.elim
    · exact hok.elim
  · exact hok.elim
theorem setAttrM_sound (hx : x.Ok) {vv : Value} {v : D} (ra : Rel (ads news) va a) (rv : Rel (ads news) vv v) : Snd x (fun _ (_ : Unit) (_ : Unit) => True) (setAttr va y vv) (setAttrM a y v σ) σ news := by
  intro P hok s Q E m S post
  unfold setAttrM at hok
  split at hok
  · obtain ⟨c, e, rfl⟩ := ra
    split at hok
    · rename_i C j h1
      split at hok
      · rename_i es ht h2
        split at hok
        · rename_i hz
          obtain ⟨c', dx, l, n, f, hm, g, hal, I⟩ := inst_at S h1 h2
          rw [e] at f; cases f
          have A := attr_ok (P := x.w.params) ht
          have al := putL_all (y := y) (hsh := PyData.keyHash x.w.params y) (t := s.toks + 1) rv hal
          refine set_dict S.F hx.base.kin S.N I rfl A.set A.over A.taker A.dict (getL_isSome hal) rfl (upd_set S.nd g) ?_ fun h' F' N' => ?_
          · rw [al.length]
            have := put_length y v es
            have : es.length < 900 := Nat.le_of_ble_eq_true hz
            omega
          · exact post.set (k := s.toks + 2) hok S g F' N' ⟨_, _, rfl, al⟩ trivial
        · exact hok.elim
      · exact hok.elim
    · exact hok.elim
  · exact hok.elim
end
end
end Mine
namespace Mine
noncomputable section
noncomputable def listMeths : List (Str × B) := [(S "append", .append), (S "pop", .pop), (S "sort", .sort)]
noncomputable def strMeths : List (Str × B) := [(S "join", .join), (S "index", .index)]
noncomputable def bytesMeths : List (Str × B) := [(S "decode", .decode)]
inductive Mt where
  | b (b : B)
  | f (f : Addr)
  | no
noncomputable def methOf (a : D) (y : Str) (σ : St) : Mt := match a with
  | .obj i => (match σ.objs[i]? with
    | some (.ints _) => (match lk y listMeths with | some b => .b b | none => .no)
    | some (.strs _) => (match lk y listMeths with | some b => .b b | none => .no)
    | some (.inst C j) => (match lk2 C y methTab, σ.objs[j]? with
      | some f, some (.dict es) => (match lk y es with
        | none => .f f
        | some _ => .no)
      | _, _ => .no)
    | _ => .no)
  | .str _ => (match lk y strMeths with | some b => .b b | none => .no)
  | .bytes _ => (match lk y bytesMeths with | some b => .b b | none => .no)
  | _ => .no
theorem list_slot {y : Str} {b : B} (h : lk y listMeths = some b) : PySem.Slot "list" y b.id ∧ typeOf (.builtin b.id) = pure (.type "method_descriptor") := by
  have := lk_mem h
  simp only [listMeths, List.mem_cons, Prod.mk.injEq, List.not_mem_nil, or_false] at this
  rcases this with ⟨rfl, rfl⟩ | ⟨rfl, rfl⟩ | ⟨rfl, rfl⟩
  · exact ⟨PySem.F.slot_list_append, PySem.F.type_list_append⟩
  · exact ⟨PySem.F.slot_list_pop, PySem.F.type_list_pop⟩
  · exact ⟨PySem.F.slot_list_sort, PySem.F.type_list_sort⟩
theorem str_slot {y : Str} {b : B} (h : lk y strMeths = some b) : PySem.Slot "str" y b.id ∧ typeOf (.builtin b.id) = pure (.type "method_descriptor") := by
  have := lk_mem h
  simp only [strMeths, List.mem_cons, Prod.mk.injEq, List.not_mem_nil, or_false] at this
  rcases this with ⟨rfl, rfl⟩ | ⟨rfl, rfl⟩
  · exact ⟨PySem.F.slot_str_join, PySem.F.type_str_join⟩
  · exact ⟨PySem.F.slot_str_index, PySem.F.type_str_index⟩
theorem bytes_slot {y : Str} {b : B} (h : lk y bytesMeths = some b) : PySem.Slot "bytes" y b.id ∧ typeOf (.builtin b.id) = pure (.type "method_descriptor") := by
  have := lk_mem h
  simp only [bytesMeths, List.mem_cons, Prod.mk.injEq, List.not_mem_nil, or_false] at this
  obtain ⟨rfl, rfl⟩ := this
  exact ⟨FB.slot_bytes_decode, FB.type_bytes_decode⟩
noncomputable def mtVal : Mt → Value
  | .b b => .builtin b.id
  | .f f => .ref f
  | .no => .none
theorem methOf_sound {x : Fx} (hx : x.Ok) {va : Value} {a : D} {y : Str} {σ : St} {s : Shared} {m : Str → Option Value} {news : List (Addr × Obj)} {pl : Sem Bool} {Q : Value × List Value → Shared → Prop} {E : Value → Shared → Prop}
    (ra : Rel (ads news) va a) (S : Sim x σ s m news) (hn : methOf a y σ ≠ .no) (h : Q (mtVal (methOf a y σ), [va]) s) : wpAny (model pw x.w) x.A (getMethod va y pl) Q E s := by
  generalize hr : methOf a y σ = r at hn h
  unfold methOf at hr
  split at hr
  · obtain ⟨c, e, rfl⟩ := ra
    split at hr
    · rename_i xs ho
      obtain ⟨c', o, f1, f2, r', hm⟩ := S.at ho
      rw [e] at f2; cases f2
      obtain ⟨vs, n, rfl, hi⟩ := r'
      split at hr
      · rename_i b hb; subst hr; exact kl_method S.N hm (list_slot hb).1 (list_slot hb).2 h
      · exact absurd hr.symm hn
    · rename_i xs ho
      obtain ⟨c', o, f1, f2, r', hm⟩ := S.at ho
      rw [e] at f2; cases f2
      obtain ⟨vs, n, rfl, hi⟩ := r'
      split at hr
      · rename_i b hb; subst hr; exact kl_method S.N hm (list_slot hb).1 (list_slot hb).2 h
      · exact absurd hr.symm hn
    · rename_i C j h1
      split at hr
      · rename_i f es ht h2
        split at hr
        · rename_i hl
          subst hr
          obtain ⟨c', dx, l, n, f', hm, g, hal, I⟩ := inst_at S h1 h2
          rw [e] at f'; cases f'
          have q := List.all_eq_true.mp (meths_ok x.w.params) _ (lk2_mem ht)
          obtain ⟨q, q3⟩ := Bool.and_eq_true_iff.mp q
          obtain ⟨q1, q2⟩ := Bool.and_eq_true_iff.mp q
          exact method_inst S.F hx.base.kin I q1 (beq_iff_eq.mp q2) q3 (getL_none' hal hl) h
        · exact absurd hr.symm hn
      · exact absurd hr.symm hn
    · exact absurd hr.symm hn
  · obtain ⟨t, rfl⟩ := ra
    split at hr
    · rename_i b hb; subst hr; exact getMethod_builtin (typeIs_str _ _ _) PySem.F.plainAttrs_str (str_slot hb).1 (str_slot hb).2 (fun a e => nomatch e) h
    · exact absurd hr.symm hn
  · obtain ⟨t, rfl⟩ := ra
    split at hr
    · rename_i b hb; subst hr; exact getMethod_builtin (typeIs_bytes _ _ _) FB.plainAttrs_bytes (bytes_slot hb).1 (bytes_slot hb).2 (fun a e => nomatch e) h
    · exact absurd hr.symm hn
  · exact absurd hr.symm hn
noncomputable def notStar : Expr → Bool
  | .Starred .. => false
  | _ => true
noncomputable def noStars : List Expr → Bool
  | [] => true
  | e :: r => notStar e && noStars r
theorem star_cons {e : Expr} {rest : List Expr} {env : Env} (h : notStar e = true) : starEach (e :: rest) env = (false, eval e env) :: starEach rest env := by
  cases e <;> first | rfl | cases h
theorem back_cons (pos : Pos) (t : Sem Value) (rest : List (Bool × Sem Value)) : backTo pos ((false, t) :: rest) = (false, t) :: backTo pos rest := rfl
theorem back_plain {pos : Pos} {env : Env} : ∀ {l : List Expr}, noStars l = true → (backTo pos (starEach l env)).any (·.1) = false
  | [], _ => rfl
  | e :: r, h => by
    obtain ⟨h1, h2⟩ := Bool.and_eq_true_iff.mp h
    rw [star_cons h1, back_cons, List.any_cons, back_plain h2]; rfl
theorem back_all {pos : Pos} {env : Env} : ∀ {l : List Expr}, noStars l = true → (backTo pos (starEach l env)).all (!·.1) = true
  | [], _ => rfl
  | e :: r, h => by
    obtain ⟨h1, h2⟩ := Bool.and_eq_true_iff.mp h
    rw [star_cons h1, back_cons, List.all_cons, back_all h2]; rfl
noncomputable def notSuper : Expr → Bool
  | .Call (.Name _ _) [] [] _ => false
  | _ => true
theorem base_plain {o : Expr} {name : Str} {env : Env} {t : Sem Value} (h : notSuper o = true) : attributeBase o name env t = t := by
  cases o with
  | Call f as ks p => cases f with
    | Name y q => cases as with
      | nil => cases ks with
        | nil => cases h
        | cons => rfl
      | cons => rfl
    | _ => rfl
  | _ => rfl
theorem method_eq {o : Expr} {name : Str} {apos pos : Pos} {args : List Expr} {env : Env} (h1 : notSuper o = true) (h2 : noStars args = true) (h3 : Nat.blt args.length 29 = true) (h4 : Nat.beq apos.endLine pos.line = true) :
    eval (.Call (.Attribute o name apos) args [] pos) env = (do
      let ov ← eval o env
      standAt apos.atName
      let (f, first) ← holding [ov] (getMethod ov name (do return (← importBound o env).getD true))
      callWith pos f first (backTo pos (starEach args env)) []) := by
  have e : eval (.Call (.Attribute o name apos) args [] pos) env = (do
      let ov ← attributeBase o name env (eval o env)
      standAt apos.atName
      methodCall o name apos pos env ov (args.length + 0) (backTo pos (starEach args env)) (backToKw pos (keywordEach [] env))) := rfl
  have form : methodCallForm (args.length + 0) (backTo pos (starEach args env)) (backToKw pos (keywordEach [] env)) = true := by
    unfold methodCallForm
    rw [back_all h2]
    have : args.length < 29 := Nat.le_of_ble_eq_true h3
    simp [backToKw, keywordEach]
    omega
  have hp : (apos.endLine == pos.line) = true := by rw [Nat.eq_of_beq_eq_true h4]; exact beq_self_eq_true _
  rw [e, base_plain h1]
  unfold methodCall
  rw [form]
  have e2 : methodCallPos true o env apos pos = pure pos := by unfold methodCallPos; rw [hp]; rfl
  rw [e2]
  rfl
theorem call_eq {func : Expr} {args : List Expr} {pos : Pos} {env : Env} (h : ∀ o n p, func ≠ .Attribute o n p) : eval (.Call func args [] pos) env = (do callWith pos (← eval func env) [] (backTo pos (starEach args env)) (backToKw pos (keywordEach [] env))) := by
  cases func <;> first | rfl | exact absurd rfl (h _ _ _)
noncomputable def noComp : Expr → Bool
  | .ListComp .. => false
  | .SetComp .. => false
  | .DictComp .. => false
  | _ => true
theorem swaps_none {e : Expr} {t : Option Expr} {n : Nat} {env : Env} (h : noComp e = true) : swapsWith e t n env = pure false := by
  delta swapsWith
  cases e <;> first | rfl | cases h
end
end Mine
namespace Mine
noncomputable section
noncomputable def loN (lo : Option Int) : Nat := match lo with | none => 0 | some i => i.toNat
noncomputable def cutL {α : Type} (l : List α) (lo hi : Option Int) : List α := match hi with
  | none => l.drop (loN lo)
  | some j => (l.drop (loN lo)).take (j.toNat - loN lo)
noncomputable def partOk (lo hi : Option Int) : Prop := (match lo with | none => True | some i => 0 ≤ i) ∧ (match hi with | none => True | some i => 0 ≤ i)
noncomputable def hiN (n : Nat) (hi : Option Int) : Nat := match hi with | none => n | some j => min j.toNat n
theorem cut_ar (a b n : Nat) : min (min b n - min a n) (n - a) = min (b - a) (n - a) := by
  rcases Nat.le_total n a with h | h
  · rw [Nat.sub_eq_zero_of_le h, Nat.min_zero, Nat.min_zero]
  · rw [Nat.min_eq_left h]
    rcases Nat.le_total b n with h' | h'
    · rw [Nat.min_eq_left h']
    · rw [Nat.min_eq_right h', Nat.min_self, Nat.min_eq_right (Nat.sub_le_sub_right h' _)]
theorem cutL_min {α : Type} (l : List α) (lo hi : Option Int) : (l.drop (min (loN lo) l.length)).take (hiN l.length hi - min (loN lo) l.length) = cutL l lo hi := by
  unfold cutL hiN
  cases hi with
  | none => dsimp only; rw [kmk_drop_min, List.take_of_length_le (by rw [List.length_drop]; exact Nat.le_trans (Nat.sub_le_sub_right (Nat.le_refl _) _) (Nat.sub_le_sub_left (Nat.min_le_left _ _) _))]
  | some j =>
    dsimp only
    rw [kmk_drop_min, List.take_eq_take_iff, List.length_drop]
    exact cut_ar _ _ _
theorem mxm {j : Int} (h : 0 ≤ j) (n : Nat) : max 0 (min j (n : Int)) = ((min j.toNat n : Nat) : Int) := by omega
theorem bounds_min {lo hi : Option Int} (h : partOk lo hi) (n : Nat) : sliceBounds lo hi none n = (((min (loN lo) n : Nat) : Int), ((hiN n hi : Nat) : Int), 1) := by
  obtain ⟨h1, h2⟩ := h
  unfold sliceBounds loN hiN
  cases lo with
  | none =>
    cases hi with
    | none => simp
    | some j =>
      have h2 : 0 ≤ j := h2
      simp only [Option.getD_none, show (1 : Int) > 0 by decide, if_true, if_neg (Int.not_lt.mpr h2)]
      exact Prod.ext (by simp) (Prod.ext (mxm h2 n) rfl)
  | some i =>
    have h1 : 0 ≤ i := h1
    cases hi with
    | none =>
      simp only [Option.getD_none, show (1 : Int) > 0 by decide, if_true, if_neg (Int.not_lt.mpr h1)]
      exact Prod.ext (mxm h1 n) rfl
    | some j =>
      have h2 : 0 ≤ j := h2
      simp only [Option.getD_none, show (1 : Int) > 0 by decide, if_true, if_neg (Int.not_lt.mpr h1), if_neg (Int.not_lt.mpr h2)]
      exact Prod.ext (mxm h1 n) (Prod.ext (mxm h2 n) rfl)
theorem pick_cut {lo hi : Option Int} (h : partOk lo hi) (vs : List Value) : slicePick vs.toArray lo hi none = (cutL vs lo hi).toArray := by
  have e := bounds_min h vs.toArray.size
  rw [kmk_pick_nat _ e]
  have := cutL_min vs lo hi
  simp only [List.size_toArray] at this ⊢
  rw [this]
theorem ints_cut {lo hi : Option Int} {vs : List Value} {ns : List Int} (h : IntsAre vs ns) : IntsAre (cutL vs lo hi) (cutL ns lo hi) := by
  unfold cutL
  cases hi with
  | none => exact h.drop _
  | some j => exact (h.drop _).take _
theorem str_cut {lo hi : Option Int} (h : partOk lo hi) (u : List Nat) : Txt.slice ⟨u.toArray⟩ lo hi = ⟨(cutL u lo hi).toArray⟩ := by
  have e : PySem.Builtin.Str.strSliceIndices lo hi 1 (⟨u.toArray⟩ : Str).length = sliceRange ((min (loN lo) u.length : Nat) : Int) ((hiN u.length hi : Nat) : Int) 1 := by
    have b := bounds_min h u.length
    rw [str_len]
    unfold sliceBounds at b
    unfold PySem.Builtin.Str.strSliceIndices
    dsimp only at b ⊢
    simp only [Option.getD_none] at b
    obtain ⟨b1, b2⟩ := Prod.mk.inj b
    obtain ⟨b2, _⟩ := Prod.mk.inj b2
    rw [← b1, ← b2]
    rfl
  have e2 : (PySem.Builtin.Str.strSliceIndices lo hi 1 (⟨u.toArray⟩ : Str).length).filterMap ((⟨u.toArray⟩ : Str).cps[·]?) = cutL u lo hi := by
    rw [e, sliceRange_one, pick_run]
    show ((u.toArray.toList.drop _).take _) = _
    exact cutL_min u lo hi
  unfold Txt.slice
  split
  · rename_i hq
    rw [e] at hq
    have hl : (sliceRange ((min (loN lo) u.length : Nat) : Int) ((hiN u.length hi : Nat) : Int) 1).length = u.length := by
      have := (Bool.and_eq_true_iff.mp hq).2
      rw [str_len] at this
      exact beq_iff_eq.mp this
    rw [sliceRange_one, List.length_map, List.length_range] at hl
    have q1 := cutL_min u lo hi
    have hh : hiN u.length hi ≤ u.length := by
      unfold hiN
      split <;> omega
    by_cases hz : u.length = 0
    · have : u = [] := List.eq_nil_of_length_eq_zero hz
      subst this
      rw [← q1]
      simp
    · have h0 : min (loN lo) u.length = 0 := by omega
      rw [hl, h0, List.drop_zero] at q1
      rw [← q1]
      simp
  · rw [e2]
theorem bytes_cut {lo hi : Option Int} (h : partOk lo hi) (u : List UInt8) : KBy.picked u.toArray lo hi = (cutL u lo hi).toArray := by
  unfold KBy.picked
  rw [bounds_min h]
  unfold Builtin.Bytes.sliced
  dsimp only
  rw [sliceRange_one, pick_run]
  have := cutL_min u lo hi
  simp only [List.size_toArray] at this ⊢
  rw [this]
noncomputable def sliceM (a : D) (lo hi : Option Int) (σ : St) : T D := match a with
  | .str u => .need (partOk lo hi ∧ u.length ≤ sizeLine) (.ret (.str (cutL u lo hi)) σ)
  | .bytes u => .need (partOk lo hi ∧ u.length ≤ sizeLine) (.ret (.bytes (cutL u lo hi)) σ)
  | .obj i => (match σ.objs[i]? with
    | some (.ints xs) => .need (partOk lo hi ∧ xs.length ≤ sizeLine) (.ret (.obj σ.objs.length) (pushO σ (.ints (cutL xs lo hi))))
    | some (.fixed xs _) => .need (partOk lo hi ∧ xs.length ≤ sizeLine) (.ret (.obj σ.objs.length) (pushO σ (.ints (cutL xs lo hi))))
    | _ => .bad)
  | _ => .bad
theorem sliceM_sound {x : Fx} {va vl vu : Value} {a : D} {lo hi : Option Int} {σ : St} {s : Shared} {m : Str → Option Value} {news : List (Addr × Obj)} {value : Expr} {l u : Option Expr} {p : Pos} {P : D → St → Prop} {Q : Value → Shared → Prop} {E : Value → Shared → Prop}
    (pl : IsPart vl lo) (pu : IsPart vu hi) (ra : Rel (ads news) va a) (hok : ok x (sliceM a lo hi σ) P) (S : Sim x σ s m news) (post : Post x Rel news P Q) :
    wpAny (model pw x.w) x.A (subscriptTail value (.Slice l u none p) va (.ref s.heap.objs.size)) Q E { s with heap := s.heap.push { cls := .type "slice", data := .fields #[vl, vu, .none] } } := by
  unfold sliceM at hok
  split at hok
  · rename_i us
    obtain ⟨t, rfl⟩ := ra
    obtain ⟨⟨h1, h2⟩, hp⟩ := hok
    have g : ∀ h' t' k, Fr x.h₀ x.env.locals h' m ∧ News x.h₀ x.env.locals h' news → Q (.str (Txt.slice ⟨us.toArray⟩ lo hi) t') { s with heap := h', toks := k } := fun h' t' k a => by
      rw [str_cut h1]
      exact post _ _ m news _ _ hp (S.heap a.1 a.2 k) (pre_refl _) ⟨t', rfl⟩
    have hsz : (⟨us.toArray⟩ : Str).length ≤ sizeLine := by rw [str_len]; exact h2
    have I : ItemOn (model pw x.w) x.A E (.str ⟨us.toArray⟩ t) (.ref s.heap.objs.size) Q { s with heap := s.heap.push { cls := .type "slice", data := .fields #[vl, vu, .none] } } := by
      cases pl <;> cases pu
      · exact SBH.sliceItem_nn keptFrN ⟨S.F, S.N⟩ g hsz
      · exact SBH.sliceItem_ns keptFrN ⟨S.F, S.N⟩ g hsz
      · exact SBH.sliceItem_sn keptFrN ⟨S.F, S.N⟩ g hsz
      · exact SBH.sliceItem_ss keptFrN ⟨S.F, S.N⟩ g hsz
    obtain ⟨T, id, q1, q2, q3⟩ := I
    exact tail_any q2 q1 q3 rfl
  · rename_i us
    obtain ⟨t, rfl⟩ := ra
    obtain ⟨⟨h1, h2⟩, hp⟩ := hok
    refine tail_any (typeIs_bytes _ _ _) FB.slot_bytes_getitem.lookup (getItem_meets (typeIs_bytes _ _ _) (by decide) FB.slot_bytes_getitem FB.entry_bytes_getitem (FB.args_bytes_getitem_2 _ _) (KBc.meets_slice2 us.toArray t _ pl pu) ⟨Heap.IsSliceOf.new _ _ _ _, ?_, fun t' k => ?_⟩) rfl
    · rw [bytes_cut h1, List.size_toArray]
      refine Nat.le_trans ?_ h2
      unfold cutL
      split
      · rw [List.length_drop]; omega
      · rw [List.length_take, List.length_drop]; omega
    · rw [bytes_cut h1]
      exact post _ _ m news _ _ hp (S.heap (S.F.push _) (News.pushKeep S.N _) k) (pre_refl _) ⟨t', rfl⟩
  · obtain ⟨c, e, rfl⟩ := ra
    split at hok
    · rename_i xs ho
      obtain ⟨⟨h1, h2⟩, hp⟩ := hok
      obtain ⟨c', o, f1, f2, r, hm⟩ := S.at ho
      rw [e] at f2; cases f2
      obtain ⟨vs, n, rfl, hi'⟩ := r
      have hl := isList_of (S.N _ hm).1
      refine tail_any (Heap.IsList.typeIs (s := { s with heap := s.heap.push { cls := .type "slice", data := .fields #[vl, vu, .none] } }) (hl.push _)) slot_list_getitem.lookup (wpAny_getItem_list_slice (hl.push _) (Heap.IsSliceOf.new ..) pl pu .none (by simp) ?_ (by rw [List.size_toArray, hi'.length]; exact h2)) rfl
      have F1 := S.F.push { cls := .type "slice", data := .fields #[vl, vu, .none] }
      have N1 := News.pushKeep S.N { cls := .type "slice", data := .fields #[vl, vu, .none] }
      have N2 := News.push F1 N1 { cls := .type "list", data := .seq (slicePick vs.toArray lo hi none) }
      have F2 := F1.push { cls := .type "list", data := .seq (slicePick vs.toArray lo hi none) }
      have S1 := S.heap F1 N1 s.toks
      refine post.push0 hp S1 ?_ F2 N2 ?_ ?_
      · refine fresh_of (x := x) (σ := σ) (s := s) (m := m) fun q hq => ?_
        exact Heap.lt_size (N1 q hq).1
      · exact ⟨cutL vs lo hi, 0, by rw [pick_cut h1], ints_cut hi'⟩
      · exact ⟨_, new_at S _ _, rfl⟩
    · rename_i xs o₀ ho
      obtain ⟨⟨h1, h2⟩, hp⟩ := hok
      obtain ⟨c', o, f1, f2, r, hm⟩ := S.at ho
      rw [e] at f2; cases f2
      obtain ⟨q, ec, vs, n, e0, hi'⟩ := r
      subst q
      have hl : s.heap.IsList _ vs.toArray := ⟨_, (S.N _ hm).1, ec, n, e0⟩
      refine tail_any (Heap.IsList.typeIs (s := { s with heap := s.heap.push { cls := .type "slice", data := .fields #[vl, vu, .none] } }) (hl.push _)) slot_list_getitem.lookup (wpAny_getItem_list_slice (hl.push _) (Heap.IsSliceOf.new ..) pl pu .none (by simp) ?_ (by rw [List.size_toArray, hi'.length]; exact h2)) rfl
      have F1 := S.F.push { cls := .type "slice", data := .fields #[vl, vu, .none] }
      have N1 := News.pushKeep S.N { cls := .type "slice", data := .fields #[vl, vu, .none] }
      have N2 := News.push F1 N1 { cls := .type "list", data := .seq (slicePick vs.toArray lo hi none) }
      have F2 := F1.push { cls := .type "list", data := .seq (slicePick vs.toArray lo hi none) }
      have S1 := S.heap F1 N1 s.toks
      refine post.push0 hp S1 ?_ F2 N2 ?_ ?_
      · refine fresh_of (x := x) (σ := σ) (s := s) (m := m) fun q hq => ?_
        exact Heap.lt_size (N1 q hq).1
      · exact ⟨cutL vs lo hi, 0, by rw [pick_cut h1], ints_cut hi'⟩
      · exact ⟨_, new_at S _ _, rfl⟩
    · exact hok.elim
  · exact hok.elim
noncomputable abbrev RP : List Addr → Value → Option Int → Prop := fun _ v o => IsPart v o
end
end Mine
namespace Mine
noncomputable section
theorem noBool_deq : typeLookup (.type "collections.deque") "__bool__" = pure none := by rw [typeLookup_type, builtinLookup_eq_fast]; kernel_rfl
theorem slot_deq_len : PySem.Slot "collections.deque" "__len__" "collections.deque.__len__" :=
  .of (owner := "collections.deque") (n := "__len__") (by rw [typeLookup_type, builtinLookup_eq_fast]; kernel_rfl) (by decide +kernel) (by decide +kernel) (by decide +kernel)
    (by first | exact .inl (by decide +kernel) | exact .inr (by decide +kernel)) (by rw [isSubtype_type]; kernel_rfl)
theorem entry_deq_len : entryFor table "collections.deque.__len__" = some Builtin.«collections.deque.__len__» := entryFor_of_fast (by kernel_rfl)
theorem args_deq_len (a : Value) : argsOk "collections.deque.__len__" ⟨[a], []⟩ := by unfold argsOk; kernel_rfl
section
variable {prog : Program} {w : World} {A : Around} {E : Value → Shared → Prop} {s : Shared}
theorem truthy_deq {l : Addr} {o : Obj} {vs : Array Value} {Q : Bool → Shared → Prop} (ho : s.heap.get? l = some o) (hc : o.cls = .type "collections.deque") (hd : o.data = .fields vs) (hv : vs.size = 2)
    (h : Q false { s with toks := s.toks + 1 + 1 }) : wpAny (model prog w) A (truthy (.ref l)) Q E s := by
  have hT : s.TypeIs (.ref l) "collections.deque" := ⟨o, ho, hc⟩
  have body : ∀ (A : Around) (E : Value → Shared → Prop), wpAny (model prog w) A (Builtin.«len» ⟨[.ref l], []⟩) (fun fin s' => ∃ r, fin = .done (.ret r) ∧ r = .int 0 (s.toks + 1) ∧ Q false s') E s := by
    intro A E
    unfold Builtin.«len»
    refine wpAny_bind (m := oneArg "len" _) (wpAny_pure ?_)
    refine wpAny_bind (m := callSpecial? (.ref l) (Str.ofString "__len__")) (wpAny_callSpecial?_slot (name := Str.ofString "__len__") hT slot_deq_len
      (wpAny_call_entry slot_deq_len hT entry_deq_len ?_ (args_deq_len _)))
    show wpAny _ _ (do retInt (← Builtin.Deque.size (.ref l))) _ _ s
    unfold Builtin.Deque.size fieldsOf
    refine wpAny_bind (wpAny_bind (wpAny_bind (wpAny_load ho ?_)))
    rw [hd]
    refine wpAny_pure (wpAny_pure (wpAny_bind (wpAny_mkInt (wpAny_pure ⟨_, rfl, ?_⟩))))
    refine wpAny_bind (wpAny_holding (wpAny_pure ?_))
    refine wpAny_bind (wpAny_letGo ?_)
    rw [hv]
    refine wpAny_bind (wpAny_mkInt (wpAny_pure ⟨_, rfl, rfl, h⟩))
  have key : wpAny (model prog w) A (runValue (.builtin "len" ⟨[.ref l], []⟩)) (fun r s' => r = .int 0 (s.toks + 1) ∧ Q false s') E s := by
    refine wpAny_runValue (codeAny_builtin entry_len ?_)
    rw [Around.under_plainId plain_len _]
    exact wpAny_mono (body _ _) (fun fin s' h' => by obtain ⟨r, rfl, hq⟩ := h'; exact hq) fun _ _ e => e
  unfold truthy
  first
    | refine wpAny_bind (wpAny_callSpecial?_none (name := Str.ofString "__bool__") hT noBool_deq ?_)
    | refine wpAny_bind (wpAny_pure (wpAny_bind (wpAny_callSpecial?_none (name := Str.ofString "__bool__") hT noBool_deq ?_)))
  first
    | refine wpAny_bind (wpAny_specialOf (name := Str.ofString "__len__") hT slot_deq_len.lookup ?_)
    | refine wpAny_bind (wpAny_pure (wpAny_bind (wpAny_specialOf (name := Str.ofString "__len__") hT slot_deq_len.lookup ?_)))
  first
    | exact wpAny_bind (wpAny_mono key (fun r s' h' => by obtain ⟨rfl, hq⟩ := h'; exact wpAny_pure hq) fun _ _ e => e)
    | exact wpAny_bind (wpAny_pure (wpAny_bind (wpAny_mono key (fun r s' h' => by obtain ⟨rfl, hq⟩ := h'; exact wpAny_pure hq) fun _ _ e => e)))
end
noncomputable def intsOf : List D → Option (List Int)
  | [] => some []
  | .int i :: r => (intsOf r).map (i :: ·)
  | _ => none
theorem intsOf_are {as : List Addr} : ∀ {vs : List Value} {ds : List D} {ns : List Int}, All2 (Rel as) vs ds → intsOf ds = some ns → IntsAre vs ns
  | _, _, _, .nil, h => by cases h; exact .nil
  | v :: vs, d :: ds, ns, .cons r q, h => by
    cases d with
    | int i =>
      obtain ⟨t, rfl⟩ := r
      unfold intsOf at h
      obtain ⟨l, e, rfl⟩ := Option.map_eq_some_iff.mp h
      exact .cons i t (intsOf_are q e)
    | _ => cases h
noncomputable def strsOf : List D → Option (List (List Nat))
  | [] => some []
  | .str u :: r => (strsOf r).map (u :: ·)
  | _ => none
theorem strsOf_are {as : List Addr} : ∀ {vs : List Value} {ds : List D} {xs : List (List Nat)}, All2 (Rel as) vs ds → strsOf ds = some xs → StrsAre vs (xs.map fun x => ⟨x.toArray⟩)
  | _, _, _, .nil, h => by cases h; exact .nil
  | v :: vs, d :: ds, xs, .cons r q, h => by
    cases d with
    | str u =>
      obtain ⟨t, rfl⟩ := r
      unfold strsOf at h
      obtain ⟨l, e, rfl⟩ := Option.map_eq_some_iff.mp h
      exact .cons _ t (strsOf_are q e)
    | _ => cases h
theorem any_strs (u : List Nat) : ∀ xs : List (List Nat), ((xs.map fun x => (⟨x.toArray⟩ : Str)).any (· == ⟨u.toArray⟩)) = xs.any fun y => decide (y = u)
  | [] => rfl
  | y :: r => by rw [List.map_cons, List.any_cons, List.any_cons, any_strs u r, str_beq]
noncomputable def truthyO (a : D) (σ : St) : T Kb := match a with
  | .obj i => (match σ.objs[i]? with
    | some (.ints xs) => .need (xs.length ≤ sizeLine) (.ret (.dyn (!decide (xs = []))) σ)
    | some .deq => .ret .no σ
    | _ => .bad)
  | a => truthyM a σ
theorem cls_two (P : Params) : ([340, 587].all fun a => match (K P).lookup a with | some o => (match o.cls with | .type n => decide (n = "type") | _ => false) | none => false) = true := by kernel_rfl
theorem cls_at {P : Params} {h : Heap} {a : Addr} (k : (K P).In h) (hm : memN [340, 587] a = true) : ∃ o, h.get? a = some o ∧ o.cls = .type "type" := by
  have q := List.all_eq_true.mp (cls_two P) a (memN_iff.mp hm)
  split at q
  · rename_i o e
    split at q
    · rename_i n hn
      exact ⟨o, k _ _ e, by rw [hn, of_decide_eq_true q]⟩
    · cases q
  · cases q
theorem isnot_refs {M : Model} {A : Around} {E : Value → Shared → Prop} {s : Shared} {a b : Addr} {oa ob : Obj} {Q : Value → Shared → Prop} (ha : s.heap.get? a = some oa) (hb : s.heap.get? b = some ob) (ca : oa.cls = .type "type") (cb : ob.cls = .type "type") (hne : Nat.beq a b = false)
    (h : Q (.bool true) s) : wpAny M A (compareOp .IsNot (.ref a) (.ref b)) Q E s := by
  show wpAny M A (do return Value.bool (!(← isSame (.ref a) (.ref b)))) Q E s
  unfold isSame
  have e : (a == b) = false := beq_eq_false_iff_ne.mpr (Nat.ne_of_beq_eq_false hne)
  simp only [e, Bool.false_eq_true, if_false]
  refine wpAny_bind (wpAny_bind (wpAny_load ha (wpAny_bind (wpAny_load hb ?_))))
  obtain ⟨c1, d1, x1, s1⟩ := oa
  obtain ⟨c2, d2, x2, s2⟩ := ob
  have ca : c1 = .type "type" := ca
  have cb : c2 = .type "type" := cb
  subst ca
  subst cb
  exact wpAny_pure (wpAny_pure h)
section
variable {x : Fx} {σ : St} {news : List (Addr × Obj)} {va vb : Value} {a b : D}
theorem truthyO_sound (ra : Rel (ads news) va a) : Snd x RB (truthy va) (truthyO a σ) σ news := by
  intro P hok s Q E m S post
  unfold truthyO at hok
  split at hok
  · obtain ⟨c, e, rfl⟩ := ra
    split at hok
    · rename_i xs ho
      obtain ⟨h1, hp⟩ := hok
      simp only [sizeLine] at h1
      obtain ⟨c', o, f1, f2, r, hm⟩ := S.at ho
      rw [e] at f2; cases f2
      obtain ⟨vs, n, rfl, hi⟩ := r
      have hl := hi.length
      refine wpAny_truthy_list (isList_of (S.N _ hm).1) (by rw [List.size_toArray]; omega) ?_
      have e : (!vs.toArray.isEmpty) = !decide (xs = []) := by
        cases hi with
        | nil => rfl
        | cons i u h => simp
      rw [e]
      exact post.here hp S rfl
    · rename_i ho
      obtain ⟨c', o, f1, f2, r, hm⟩ := S.at ho
      rw [e] at f2; cases f2
      obtain ⟨r1, vs, r2, r3⟩ := r
      exact truthy_deq (S.N _ hm).1 r1 r2 r3 (post.here hok S rfl)
    · exact hok.elim
  · exact truthyM_sound ra P hok s Q E m S post
noncomputable def binOW (op : Operator) (a b : D) (σ : St) : Subtype (BinS op a b σ) := match op, a, b with
  | .Add, .obj i, .obj j => ⟨(match σ.objs[i]?, σ.objs[j]? with
    | some (.ints xs), some (.ints ys) => .need (xs.length + ys.length ≤ sizeLine) (.ret (.obj σ.objs.length) (pushO σ (.ints (xs ++ ys))))
    | _, _ => .bad), by
    intro x va vb news ra rb P hok s Q E m S post
    obtain ⟨c, e, rfl⟩ := ra
    obtain ⟨d, e', rfl⟩ := rb
    split at hok
    · rename_i xs ys ho ho'
      obtain ⟨h1, hp⟩ := hok
      obtain ⟨c', o, f1, f2, r, hm⟩ := S.at ho
      rw [e] at f2; cases f2
      obtain ⟨vs, n, rfl, hi⟩ := r
      obtain ⟨d', o', g1, g2, r', hm'⟩ := S.at ho'
      rw [e'] at g2; cases g2
      obtain ⟨vs', n', rfl, hi'⟩ := r'
      refine add_lists_ints S.F S.N (isList_of (S.N _ hm).1) (isList_of (S.N _ hm').1) hi hi' (fun h' F' N' hh => ?_) h1
      refine post.push0 hp S ?_ F' N' ⟨vs ++ vs', 0, rfl, hh⟩ ⟨_, new_at S _ _, rfl⟩
      exact fresh_of (x := x) (σ := σ) (s := s) (m := m) fun q hq => Heap.lt_size (S.N q hq).1
    · exact hok.elim⟩
  | .Add, .bytes u, .bytes v => ⟨.need (u.length + v.length ≤ sizeLine) (.ret (.bytes (u ++ v)) σ), by
    intro x va vb news ra rb P hok s Q E m S post
    obtain ⟨t, rfl⟩ := ra
    obtain ⟨u, rfl⟩ := rb
    obtain ⟨h1, hp⟩ := hok
    simp only [sizeLine] at h1
    refine KBy.add_bytes (by simp only [List.size_toArray]; omega) fun t' k => ?_
    rw [List.append_toArray]
    exact post.here hp S ⟨_, rfl⟩⟩
  | op, a, b => ⟨binM op a b σ, by
    intro x va vb news ra rb P hok s Q E m S post
    exact binM_sound op ra rb P hok s Q E m S post⟩
noncomputable def binO (op : Operator) (a b : D) (σ : St) : T D := (binOW op a b σ).1
theorem binO_sound (op : Operator) (ra : Rel (ads news) va a) (rb : Rel (ads news) vb b) : Snd x Rel (binaryOp op va vb) (binO op a b σ) σ news := (binOW op a b σ).2 ra rb
noncomputable def CmpOS (op : CmpOp) (a b : D) (σ : St) (t : T D) : Prop := ∀ (x : Fx) (va vb : Value) (news : List (Addr × Obj)), x.Ok → Rel (ads news) va a → Rel (ads news) vb b → Snd x Rel (compareOp op va vb) t σ news
noncomputable def cmpOW (op : CmpOp) (a b : D) (σ : St) : Subtype (CmpOS op a b σ) := match op, a, b with
  | .Eq, .obj i, .obj j => ⟨(match σ.objs[i]?, σ.objs[j]? with
    | some (.ints xs), some (.ints ys) => .ret (.bool (decide (xs = ys))) σ
    | _, _ => .bad), by
    intro x va vb news hx ra rb P hok s Q E m S post
    obtain ⟨c, e, rfl⟩ := ra
    obtain ⟨d, e', rfl⟩ := rb
    split at hok
    · rename_i xs ys ho ho'
      obtain ⟨c', o, f1, f2, r, hm⟩ := S.at ho
      rw [e] at f2; cases f2
      obtain ⟨vs, n, rfl, hi⟩ := r
      obtain ⟨d', o', g1, g2, r', hm'⟩ := S.at ho'
      rw [e'] at g2; cases g2
      obtain ⟨vs', n', rfl, hi'⟩ := r'
      have ru := hx.room.units
      exact eq_intsK (isList_of (S.N _ hm).1) hi (isList_of (S.N _ hm').1) hi' (by omega) (post.here0 hok S rfl)
    · exact hok.elim⟩
  | .In, .int k, .obj j => ⟨(match σ.objs[j]? with
    | some (.tup ds) => (match intsOf ds with
      | some ns => .ret (.bool (ns.any (· == k))) σ
      | none => .bad)
    | _ => .bad), by
    intro x va vb news hx ra rb P hok s Q E m S post
    obtain ⟨t, rfl⟩ := ra
    obtain ⟨d, e', rfl⟩ := rb
    split at hok
    · rename_i ds ho
      split at hok
      · rename_i ns hn
        obtain ⟨c', o, f1, f2, r, hm⟩ := S.at ho
        rw [e'] at f2; cases f2
        obtain ⟨vs, n, rfl, hi⟩ := r
        exact in_tuple_ints ⟨_, (S.N _ hm).1, rfl, n, rfl⟩ (intsOf_are hi hn) (post.here0 hok S rfl)
      · exact hok.elim
    · exact hok.elim⟩
  | .In, .str u, .obj j => ⟨(match σ.objs[j]? with
    | some (.tup ds) => (match strsOf ds with
      | some xs => .ret (.bool (xs.any fun y => decide (y = u))) σ
      | none => .bad)
    | _ => .bad), by
    intro x va vb news hx ra rb P hok s Q E m S post
    obtain ⟨t, rfl⟩ := ra
    obtain ⟨d, e', rfl⟩ := rb
    split at hok
    · rename_i ds ho
      split at hok
      · rename_i xs hn
        obtain ⟨c', o, f1, f2, r, hm⟩ := S.at ho
        rw [e'] at f2; cases f2
        obtain ⟨vs, n, rfl, hi⟩ := r
        refine in_tuple_strs ⟨_, (S.N _ hm).1, rfl, n, rfl⟩ (strsOf_are hi hn) ?_
        rw [any_strs]
        exact post.here0 hok S rfl
      · exact hok.elim
    · exact hok.elim⟩
  | .IsNot, .top a, .top b => ⟨(match memN [340, 587] a && memN [340, 587] b with
    | true => (match Nat.beq a b with
      | true => .ret .ff σ
      | false => .ret .tt σ)
    | false => .bad), by
    intro x va vb news hx ra rb P hok s Q E m S post
    cases ra; cases rb
    split at hok
    · rename_i hm
      obtain ⟨h1, h2⟩ := Bool.and_eq_true_iff.mp hm
      have kin := hx.base.kin.keeps S.F.keep
      obtain ⟨oa, ga, ca⟩ := cls_at kin h1
      obtain ⟨ob, gb, cb⟩ := cls_at kin h2
      split at hok
      · rename_i he
        have := Nat.eq_of_beq_eq_true he
        subst this
        exact isnot_ref_same (post.here0 hok S rfl)
      · rename_i he
        exact isnot_refs ga gb ca cb he (post.here0 hok S rfl)
    · exact hok.elim⟩
  | op, a, b => ⟨cmpM op a b σ, by
    intro x va vb news hx ra rb P hok s Q E m S post
    exact cmpM_sound op ra rb P hok s Q E m S post⟩
noncomputable def cmpO (op : CmpOp) (a b : D) (σ : St) : T D := (cmpOW op a b σ).1
theorem cmpO_sound (hx : x.Ok) (op : CmpOp) (ra : Rel (ads news) va a) (rb : Rel (ads news) vb b) : Snd x Rel (compareOp op va vb) (cmpO op a b σ) σ news := (cmpOW op a b σ).2 _ _ _ _ hx ra rb
end
noncomputable def tupM (ds : List D) (σ : St) : T D := .need (ds.length ≤ sizeLine) (.ret (.obj σ.objs.length) (pushO σ (.tup ds)))
noncomputable def listM (ds : List D) (σ : St) : T D := match intsOf ds with
  | some ns => .need (ns.length ≤ sizeLine) (.ret (.obj σ.objs.length) (pushO σ (.ints ns)))
  | none => .bad
theorem listM_sound {x : Fx} {σ : St} {news : List (Addr × Obj)} {vs : List Value} {ds : List D} (ra : All2 (Rel (ads news)) vs ds) : Snd x Rel (newList vs) (listM ds σ) σ news := by
  intro P hok s Q E m S post
  unfold listM at hok
  split at hok
  · rename_i ns hn
    obtain ⟨h1, hp⟩ := hok
    have hi := intsOf_are ra hn
    refine newList_N S.F S.N (fun h' F' N' => ?_) (by rw [hi.length]; exact h1)
    refine post.push0 hp S ?_ F' N' ⟨vs, 0, rfl, hi⟩ ⟨_, new_at S _ _, rfl⟩
    exact fresh_of (x := x) (σ := σ) (s := s) (m := m) fun q hq => Heap.lt_size (S.N q hq).1
  · exact hok.elim
theorem tupM_sound {x : Fx} {σ : St} {news : List (Addr × Obj)} {vs : List Value} {ds : List D} (ra : All2 (Rel (ads news)) vs ds) : Snd x Rel (newTuple vs) (tupM ds σ) σ news := by
  intro P hok s Q E m S post
  obtain ⟨h1, hp⟩ := hok
  refine newTuple_N S.F S.N (fun h' F' N' => ?_) (by rw [ra.length]; exact h1)
  refine post.push0 hp S ?_ F' N' ⟨vs, 0, rfl, all2_mono (fun _ _ r => r.mono (pre_append _ _)) ra⟩ ⟨_, new_at S _ _, rfl⟩
  exact fresh_of (x := x) (σ := σ) (s := s) (m := m) fun q hq => Heap.lt_size (S.N q hq).1
end
end Mine
namespace Mine
noncomputable section
structure Cfg where
  sp : Specs
  cp : Expr → St → Option (D × St)
  N : List (Str × NameKind)
noncomputable def constM (c : Const) (σ : St) : T D := match c with
  | .none => .ret .none σ
  | .bool true => .ret .tt σ
  | .bool false => .ret .ff σ
  | .int i => .ret (.int i) σ
  | .str x => .ret (.str x.cps.toList) σ
  | .bytes b => .ret (.bytes b) σ
  | _ => .bad
noncomputable def negM (a : D) (σ : St) : T D := match a with
  | .int i => .ret (.int (-i)) σ
  | _ => .bad
noncomputable def callTab : List Addr := fnTab ++ [587, 722]
theorem calls_ok (P : Params) : (callTab.all fun a => keepIn (K P) (.ref a)) = true := by kernel_rfl
noncomputable def applyM (c : Cfg) (f : D) (ds : List D) (σ : St) : T D := match f with
  | .top a => (match memN callTab a with
    | true => callM c.sp a ds σ
    | false => .bad)
  | .fn b => bltN b ds σ
  | .type t => tyM t ds σ
  | _ => .bad
noncomputable def intPart (d : D) (σ : St) : T (Option Int) := match d with
  | .int i => .ret (some i) σ
  | _ => .bad
noncomputable def methM (c : Cfg) (mt : Mt) (a : D) (ds : List D) (σ : St) : T D := match mt with
  | .b b => bltN b (a :: ds) σ
  | .f f => (match memN fnTab f with
    | true => callM c.sp f (a :: ds) σ
    | false => .bad)
  | .no => .bad
noncomputable abbrev RL : List Addr → List Value → List D → Prop := fun as vs ds => All2 (Rel as) vs ds
theorem constM_sound {x : Fx} {k : Const} {a : Nat} {p : Pos} {σ : St} {news : List (Addr × Obj)} : Snd x Rel (eval (.Constant k a p) x.env) (constM k σ) σ news := by
  intro P hok s Q E m S post
  unfold constM at hok
  split at hok
  · exact wpAny_Constant_none (post.here0 hok S rfl)
  · exact wpAny_Constant_bool (post.here0 hok S rfl)
  · exact wpAny_Constant_bool (post.here0 hok S rfl)
  · exact wpAny_Constant_int (post.here hok S ⟨_, rfl⟩)
  · exact wpAny_Constant_str (post.here hok S ⟨s.toks, by simp⟩)
  · exact PySem.W.Constant_bytes (post.here hok S ⟨_, rfl⟩)
  · exact hok.elim
theorem negM_sound {x : Fx} {va : Value} {a : D} {σ : St} {news : List (Addr × Obj)} (ra : Rel (ads news) va a) : Snd x Rel (unaryOp .USub va) (negM a σ) σ news := by
  intro P hok s Q E m S post
  unfold negM at hok
  split at hok
  · obtain ⟨t, rfl⟩ := ra; exact PySem.P.neg_int (post.here hok S ⟨_, rfl⟩)
  · exact hok.elim
theorem fn_at {P : Params} {h : Heap} {a : Addr} (k : (K P).In h) (hm : memN fnTab a = true) : ∃ o fd, h.get? a = some o ∧ o.data = .func fd := by
  have q := List.all_eq_true.mp (fns_ok P) a (memN_iff.mp hm)
  unfold fnIn at q
  split at q
  · rename_i f _ e; exact ⟨_, f, k _ _ e, rfl⟩
  · cases q
section
variable {x : Fx} {c : Cfg}
theorem applyM_sound (hx : x.Ok) {vf : Value} {f : D} {vals : List Value} {ds : List D} {σ : St} {news : List (Addr × Obj)} (rf : Rel (ads news) vf f) (ra : All2 (Rel (ads news)) vals ds) : Snd x Rel (PySem.call vf vals) (applyM c f ds σ) σ news := by
  unfold applyM
  split
  · cases rf
    split
    · exact callM_sound hx ra
    · exact fun P hok => hok.elim
  · cases rf; exact bltN_sound ra
  · cases rf; exact tyM_sound ra
  · exact fun P hok => hok.elim
structure GoodF (x : Fx) (ev : Expr → St → T D) (tr : Expr → St → T Kb) (els : List Expr → St → T (List D)) : Prop where
  ev : ∀ e σ news, Snd x Rel (eval e x.env) (ev e σ) σ news
  tr : ∀ e σ news, Snd x RB (isTrue e x.env (eval e x.env)) (tr e σ) σ news
  es : ∀ es pos σ news, noStars es = true → Snd x RL (spliced (backTo pos (starEach es x.env))) (els es σ) σ news
  nil : ∀ σ, els [] σ = .bad ∨ els [] σ = .ret [] σ
theorem Snd.bad {ν δ : Type} {Rl : List Addr → ν → δ → Prop} {tree : Sem ν} {σ : St} {news : List (Addr × Obj)} : Snd x Rl tree (.bad : T δ) σ news := fun P hok => hok.elim
theorem isTrue_val {e : Expr} (he : isTrue e x.env (eval e x.env) = (do let v ← eval e x.env; standAt e.pos; holding [v] (truthy v))) {t : T D} {σ : St} {news : List (Addr × Obj)} (h : Snd x Rel (eval e x.env) t σ news) : Snd x RB (isTrue e x.env (eval e x.env)) (t.bind truthyO) σ news := by
  intro P hok s Q E m S post
  refine isTrue_plain ?_ he
  refine h.then hok S post fun v s1 m1 n1 d σ1 ok1 S1 p1 r1 post1 => ?_
  exact truthyO_sound r1 P ok1 s1 Q E m1 S1 post1
theorem ok_no {α β : Type} {k : α → St → T β} {P : β → St → Prop} (hb : ∀ a σ, k a σ = .bad) : ∀ {t : T α}, ok x (t.bind k) P → False
  | .ret a σ, h => by
    have h : ok x (k a σ) P := h
    rw [hb] at h; exact h
  | .br b t e, h => by cases b; exact ok_no hb (h.2 rfl); exact ok_no hb (h.1 rfl)
  | .need p t, h => ok_no hb h.2
  | .call _ _ _ _ _ t, h => ok_no hb h.2
  | .ext _ _ _ _ t, h => ok_no hb h.2
  | .bad, h => h
theorem methM_f {f : Addr} {d : D} {ds : List D} {σ : St} : methM c (.f f) d ds σ = match memN fnTab f with | true => callM c.sp f (d :: ds) σ | false => .bad := rfl
theorem meth_sound (hx : x.Ok) {ev : Expr → St → T D} {tr : Expr → St → T Kb} {els : List Expr → St → T (List D)} (G : GoodF x ev tr els) {args : List Expr} {pos : Pos} {mt : Mt} {v : Value} {d : D} {σ : St} {s : Shared} {m : Str → Option Value} {news : List (Addr × Obj)} {P : D → St → Prop} {Q : Value → Shared → Prop} {E : Value → Shared → Prop}
    (h2 : noStars args = true) (r1 : Rel (ads news) v d) (ok1 : ok x ((els args σ).bind fun ds σ => methM c mt d ds σ) P) (S1 : Sim x σ s m news) (post : Post x Rel news P Q) :
    wpAny (model pw x.w) x.A (callWith pos (mtVal mt) [v] (backTo pos (starEach args x.env)) []) Q E s := by
  cases args with
  | nil =>
    have ok2 : ok x (methM c mt d [] σ) P := by
      rcases G.nil σ with q | q
      · rw [q] at ok1; exact ok1.elim
      · rw [q] at ok1; exact ok1
    unfold methM at ok2
    split at ok2
    · exact callWith_method0 (bltN_sound (.cons r1 .nil) P ok2 s Q E m S1 post)
    · split at ok2
      · rename_i hf
        obtain ⟨o, fd, h1, h3⟩ := fn_at hx.base.kin hf
        exact callWith_meth0 h3 (S1.F.keep _ _ h1) (callM_sound hx (.cons r1 .nil) P ok2 s Q E m S1 post)
      · exact ok2.elim
    · exact ok2.elim
  | cons e rest =>
    obtain ⟨hs1, hs2⟩ := Bool.and_eq_true_iff.mp h2
    cases mt with
    | no => exact (ok_no (fun _ _ => rfl) ok1).elim
    | b b =>
      refine callWith_method1 ?_ (star_cons hs1) (back_plain hs2)
      refine (G.es _ _ _ _ h2).then ok1 S1 post fun vs s2 m2 n2 ds σ2 ok2 S2 p2 r2 post2 => ?_
      exact bltN_sound (.cons (r1.mono p2) r2) P ok2 s2 Q E m2 S2 post2
    | f f =>
      cases hf : memN fnTab f with
      | false =>
        exact (ok_no (fun ds σ => by rw [methM_f, hf]) ok1).elim
      | true =>
        obtain ⟨o, fd, h1, h3⟩ := fn_at hx.base.kin hf
        refine callWith_meth (h₀ := x.h₀) h3 h1 ?_ (star_cons hs1)
        refine (G.es _ _ _ _ h2).then ok1 S1 post fun vs s2 m2 n2 ds σ2 ok2 S2 p2 r2 post2 => ?_
        refine ⟨S2.F.keep, ?_⟩
        rw [methM_f, hf] at ok2
        exact callM_sound hx (.cons (r1.mono p2) r2) P ok2 s2 Q E m2 S2 post2
theorem fcall_sound (hx : x.Ok) {ev : Expr → St → T D} {tr : Expr → St → T Kb} {els : List Expr → St → T (List D)} (G : GoodF x ev tr els) {e : Expr} {rest : List Expr} {pos : Pos} {v : Value} {d : D} {σ : St} {s : Shared} {m : Str → Option Value} {news : List (Addr × Obj)} {P : D → St → Prop} {Q : Value → Shared → Prop} {E : Value → Shared → Prop}
    (h2 : noStars (e :: rest) = true) (r1 : Rel (ads news) v d) (ok1 : ok x ((els (e :: rest) σ).bind fun ds σ => applyM c d ds σ) P) (S1 : Sim x σ s m news) (post : Post x Rel news P Q) :
    wpAny (model pw x.w) x.A (callWith pos v [] (backTo pos (starEach (e :: rest) x.env)) []) Q E s := by
  obtain ⟨hs1, hs2⟩ := Bool.and_eq_true_iff.mp h2
  have no : (∀ ds σ, applyM c d ds σ = .bad) → False := fun hb => ok_no hb ok1
  cases d with
  | top a =>
    cases hf : memN callTab a with
    | false => exact (no fun ds σ => by unfold applyM; dsimp only; rw [hf]).elim
    | true =>
      cases r1
      have hk := List.all_eq_true.mp (calls_ok x.w.params) a (memN_iff.mp hf)
      refine callWith_K hx.base.kin hk ?_ (star_cons hs1) (back_plain hs2)
      refine (G.es _ _ _ _ h2).then ok1 S1 post fun vs s2 m2 n2 ds σ2 ok2 S2 p2 r2 post2 => ?_
      exact ⟨hx.base.kin.keeps S2.F.keep, applyM_sound (f := .top a) hx rfl r2 P ok2 s2 Q E m2 S2 post2⟩
  | fn b =>
    cases r1
    refine callWith_builtin1 ?_ (star_cons hs1) (back_plain hs2)
    refine (G.es _ _ _ _ h2).then ok1 S1 post fun vs s2 m2 n2 ds σ2 ok2 S2 p2 r2 post2 => ?_
    exact applyM_sound (f := .fn b) hx rfl r2 P ok2 s2 Q E m2 S2 post2
  | type t =>
    cases r1
    refine callWith_type1 ?_ (star_cons hs1) (back_plain hs2)
    refine (G.es _ _ _ _ h2).then ok1 S1 post fun vs s2 m2 n2 ds σ2 ok2 S2 p2 r2 post2 => ?_
    exact applyM_sound (f := .type t) hx rfl r2 P ok2 s2 Q E m2 S2 post2
  | _ => exact (no fun ds σ => rfl).elim
theorem part_sound {ev : Expr → St → T D} {tr : Expr → St → T Kb} {els : List Expr → St → T (List D)} (G : GoodF x ev tr els) (o : Option Expr) (σ : St) (news : List (Addr × Obj)) : Snd x RP (evalPart o x.env) (match o with | none => T.ret none σ | some e => (ev e σ).bind intPart) σ news := by
  cases o with
  | none => exact fun P hok s Q E m S post => wpAny_evalPart_none (post.here0 hok S .none)
  | some e =>
    intro P hok s Q E m S post
    refine wpAny_evalPart_some ?_
    refine (G.ev _ _ _).then hok S post fun v s1 m1 n1 d σ1 ok1 S1 p1 r1 post1 => ?_
    unfold intPart at ok1
    split at ok1
    · obtain ⟨t, rfl⟩ := r1
      exact post1.here0 ok1 S1 (.int _ t)
    · exact ok1.elim
end
theorem nmW {x : Fx} {c : Cfg} (hx : x.Ok) (hN : x.env.scope.names = c.N) (y : Str) (p : Pos) (σ : St) (news : List (Addr × Obj)) : Snd x Rel (eval (.Name y p) x.env) (nameM c.N y σ) σ news := by rw [← hN]; exact nameM_sound hx
noncomputable def EvS (c : Cfg) (ev : Expr → St → T D) (tr : Expr → St → T Kb) (els : List Expr → St → T (List D)) (e : Expr) (σ : St) (t : T D) : Prop := ∀ (x : Fx) (news : List (Addr × Obj)), x.Ok → x.env.scope.names = c.N → GoodF x ev tr els → Snd x Rel (eval e x.env) t σ news
noncomputable def TrS (c : Cfg) (ev : Expr → St → T D) (tr : Expr → St → T Kb) (els : List Expr → St → T (List D)) (e : Expr) (σ : St) (t : T Kb) : Prop := ∀ (x : Fx) (news : List (Addr × Obj)), x.Ok → x.env.scope.names = c.N → GoodF x ev tr els → Snd x RB (isTrue e x.env (eval e x.env)) t σ news
noncomputable def evalW (c : Cfg) (ev : Expr → St → T D) (tr : Expr → St → T Kb) (els : List Expr → St → T (List D)) (e : Expr) (σ : St) : Subtype (EvS c ev tr els e σ) := match e with
  | .Constant k _ _ => ⟨constM k σ, by
    intro x news hx hN G
    exact constM_sound⟩
  | .Name y _ => ⟨nameM c.N y σ, by
    intro x news hx hN G
    exact nmW hx hN _ _ _ _⟩
  | .BinOp l op r _ => ⟨(ev l σ).bind fun a σ => (ev r σ).bind fun b σ => binO op a b σ, by
    intro x news hx hN G
    intro P hok s Q E m S post
    refine wpAny_BinOp ?_
    refine (G.ev _ _ _).then hok S post fun v s1 m1 n1 d σ1 ok1 S1 p1 r1 post1 => ?_
    refine (G.ev _ _ _).then ok1 S1 post1 fun v' s2 m2 n2 d' σ2 ok2 S2 p2 r2 post2 => ?_
    exact binO_sound _ (r1.mono p2) r2 P ok2 s2 Q E m2 S2 post2⟩
  | .UnaryOp .USub e _ => ⟨(ev e σ).bind negM, by
    intro x news hx hN G
    intro P hok s Q E m S post
    refine UnaryOp_ ?_
    refine (G.ev _ _ _).then hok S post fun v s1 m1 n1 d σ1 ok1 S1 p1 r1 post1 => ?_
    exact negM_sound r1 P ok1 s1 Q E m1 S1 post1⟩
  | .UnaryOp .Not e _ => ⟨(ev e σ).bind fun a σ => (truthyO a σ).bind fun b σ => .ret b.neg.toD σ, by
    intro x news hx hN G
    intro P hok s Q E m S post
    refine UnaryOp_ ?_
    refine (G.ev _ _ _).then hok S post fun v s1 m1 n1 d σ1 ok1 S1 p1 r1 post1 => ?_
    refine not_of ?_
    refine (truthyO_sound r1).then ok1 S1 post1 fun b s2 m2 n2 b' σ2 ok2 S2 p2 r2 post2 => ?_
    cases r2
    exact post2.here0 ok2 S2 (by rw [← Kb.neg_val]; exact Kb.rel _ _)⟩
  | .BoolOp _ [e] _ => ⟨ev e σ, by
    intro x news hx hN G
    intro P hok s Q E m S post
    exact BoolOp_one (G.ev _ _ _ P hok s Q E m S post)⟩
  | .BoolOp .And (e :: e' :: r) p => ⟨(ev e σ).bind fun a σ => (truthyO a σ).bind fun b σ => brK b (ev (.BoolOp .And (e' :: r) p) σ) (.ret a σ), by
    intro x news hx hN G
    intro P hok s Q E m S post
    refine BoolOp_and ?_
    refine (G.ev _ _ _).then hok S post fun v s1 m1 n1 d σ1 ok1 S1 p1 r1 post1 => ?_
    refine (truthyO_sound r1).then ok1 S1 post1 fun b s2 m2 n2 b' σ2 ok2 S2 p2 r2 post2 => ?_
    obtain ⟨o1, o2⟩ := brK_ok ok2
    cases b with
    | true => exact G.ev _ _ _ P (o1 r2.symm) s2 Q E m2 S2 post2
    | false => exact post2.here0 (o2 r2.symm) S2 (r1.mono p2)⟩
  | .BoolOp .Or (e :: e' :: r) p => ⟨(ev e σ).bind fun a σ => (truthyO a σ).bind fun b σ => brK b (.ret a σ) (ev (.BoolOp .Or (e' :: r) p) σ), by
    intro x news hx hN G
    intro P hok s Q E m S post
    refine BoolOp_or ?_
    refine (G.ev _ _ _).then hok S post fun v s1 m1 n1 d σ1 ok1 S1 p1 r1 post1 => ?_
    refine (truthyO_sound r1).then ok1 S1 post1 fun b s2 m2 n2 b' σ2 ok2 S2 p2 r2 post2 => ?_
    obtain ⟨o1, o2⟩ := brK_ok ok2
    cases b with
    | true => exact post2.here0 (o1 r2.symm) S2 (r1.mono p2)
    | false => exact G.ev _ _ _ P (o2 r2.symm) s2 Q E m2 S2 post2⟩
  | .IfExp t a b _ => ⟨(tr t σ).bind fun k σ => brK k (ev a σ) (ev b σ), by
    intro x news hx hN G
    intro P hok s Q E m S post
    refine IfExp_ ?_
    refine (G.tr _ _ _).then hok S post fun b s1 m1 n1 b' σ1 ok1 S1 p1 r1 post1 => ?_
    obtain ⟨o1, o2⟩ := brK_ok ok1
    cases b with
    | true => exact G.ev _ _ _ P (o1 r1.symm) s1 Q E m1 S1 post1
    | false => exact G.ev _ _ _ P (o2 r1.symm) s1 Q E m1 S1 post1⟩
  | .Compare l [op] [r] _ => ⟨(match behindInMarks op r with
    | false => (ev l σ).bind fun a σ => (ev r σ).bind fun b σ => cmpO op a b σ
    | true => .bad), by
    intro x news hx hN G
    split
    · rename_i hm
      intro P hok s Q E m S post
      refine wpAny_Compare1 ?_ hm
      refine (G.ev _ _ _).then hok S post fun v s1 m1 n1 d σ1 ok1 S1 p1 r1 post1 => ?_
      refine (G.ev _ _ _).then ok1 S1 post1 fun v' s2 m2 n2 d' σ2 ok2 S2 p2 r2 post2 => ?_
      exact cmpO_sound hx _ (r1.mono p2) r2 P ok2 s2 Q E m2 S2 post2
    · exact Snd.bad⟩
  | .Attribute (.Name y p) at_ p2 => ⟨(match Fast.sEq at_ (S "punctuation_chars") with
    | true => (match c.cp (.Attribute (.Name y p) at_ p2) σ with
      | some (d, σ') => .ext (.Attribute (.Name y p) at_ p2) σ d σ' (.ret d σ')
      | none => .bad)
    | false => (nameM c.N y σ).bind fun a σ => attrM a at_ σ), by
    intro x news hx hN G
    split
    · split
      · rename_i d σ' hc
        intro P hok s Q E m S post
        exact hok.1 s Q E m news S fun v s' m' news' d' σ'' e S' pre r => by
          obtain ⟨rfl, rfl⟩ := e
          exact post v s' m' news' _ _ hok.2 S' pre r
      · exact Snd.bad
    · intro P hok s Q E m S post
      refine Attribute_name ?_
      refine (nmW hx hN _ _ _ _).then hok S post fun v s1 m1 n1 d σ1 ok1 S1 p1 r1 post1 => ?_
      exact attrM_sound hx r1 true P ok1 s1 Q E m1 S1 post1⟩
  | .Subscript v (.Slice lo hi none _) _ => ⟨(ev v σ).bind fun a σ => (match lo with
      | none => T.ret none σ
      | some e => (ev e σ).bind intPart).bind fun l σ => (match hi with
      | none => T.ret none σ
      | some e => (ev e σ).bind intPart).bind fun u σ => sliceM a l u σ, by
    intro x news hx hN G
    intro P hok s Q E m S post
    refine Subscript_ ?_
    refine (G.ev _ _ _).then hok S post fun v s1 m1 n1 d σ1 ok1 S1 p1 r1 post1 => ?_
    refine wpAny_Slice ?_
    refine (part_sound G lo _ _).then ok1 S1 post1 fun vl s2 m2 n2 l σ2 ok2 S2 p2 r2 post2 => ?_
    refine (part_sound G hi _ _).then ok2 S2 post2 fun vu s3 m3 n3 u σ3 ok3 S3 p3 r3 post3 => ?_
    refine wpAny_evalPart_none ?_
    exact sliceM_sound r2 r3 ((r1.mono p2).mono p3) ok3 S3 post3⟩
  | .List es _ => ⟨(match noStars es with
    | true => (els es σ).bind listM
    | false => .bad), by
    intro x news hx hN G
    split
    · rename_i hs
      intro P hok s Q E m S post
      refine List_ ?_
      refine (G.es _ _ _ _ hs).then hok S post fun vs s1 m1 n1 ds σ1 ok1 S1 p1 r1 post1 => ?_
      exact listM_sound r1 P ok1 s1 Q E m1 S1 post1
    · exact Snd.bad⟩
  | .Tuple es _ _ => ⟨(match noStars es with
    | true => (els es σ).bind tupM
    | false => .bad), by
    intro x news hx hN G
    split
    · rename_i hs
      intro P hok s Q E m S post
      refine Tuple_ ?_
      refine (G.es _ _ _ _ hs).then hok S post fun vs s1 m1 n1 ds σ1 ok1 S1 p1 r1 post1 => ?_
      exact tupM_sound r1 P ok1 s1 Q E m1 S1 post1
    · exact Snd.bad⟩
  | .Subscript v i _ => ⟨(match notSlice i with
    | true => (ev v σ).bind fun a σ => (ev i σ).bind fun k σ => itemM a k σ
    | false => .bad), by
    intro x news hx hN G
    split
    · rename_i hs
      intro P hok s Q E m S post
      refine Subscript_ ?_
      refine (G.ev _ _ _).then hok S post fun v s1 m1 n1 d σ1 ok1 S1 p1 r1 post1 => ?_
      refine (G.ev _ _ _).then ok1 S1 post1 fun v' s2 m2 n2 d' σ2 ok2 S2 p2 r2 post2 => ?_
      exact itemM_sound hs (r1.mono p2) r2 P ok2 s2 Q E m2 S2 post2
    · exact Snd.bad⟩
  | .Call (.Attribute o name apos) args [] pos => ⟨(match notSuper o && noStars args && Nat.blt args.length 29 && Nat.beq apos.endLine pos.line with
    | true => (ev o σ).bind fun a σ => (match methOf a name σ with
      | .no => .bad
      | mt => (els args σ).bind fun ds σ => methM c mt a ds σ)
    | false => .bad), by
    intro x news hx hN G
    split
    · rename_i hs
      obtain ⟨hs, h4⟩ := Bool.and_eq_true_iff.mp hs
      obtain ⟨hs, h3⟩ := Bool.and_eq_true_iff.mp hs
      obtain ⟨h1, h2⟩ := Bool.and_eq_true_iff.mp hs
      intro P hok s Q E m S post
      refine MethodCall_ (pl := _) ?_ (method_eq h1 h2 h3 h4)
      refine (G.ev _ _ _).then hok S post fun v s1 m1 n1 d σ1 ok1 S1 p1 r1 post1 => ?_
      have hn : methOf d _ σ1 ≠ .no := fun q => by rw [q] at ok1; exact ok1.elim
      refine methOf_sound hx r1 S1 hn ?_
      generalize hr : methOf d _ σ1 = mt at hn ok1
      refine meth_sound (c := c) hx G h2 r1 ?_ S1 post1
      cases mt with
      | no => exact absurd rfl hn
      | b b => exact ok1
      | f f => exact ok1
    · exact Snd.bad⟩
  | .Call (.Name f p) [] [] _ => ⟨(nameM c.N f σ).bind fun fd σ => (match fd with
    | .type t => tyM t [] σ
    | _ => .bad), by
    intro x news hx hN G
    intro P hok s Q E m S post
    refine Call_ ?_
    refine (nmW hx hN _ _ _ _).then hok S post fun v s1 m1 n1 d σ1 ok1 S1 p1 r1 post1 => ?_
    split at ok1
    · cases r1
      exact callWith_type0 (tyM_sound .nil P ok1 s1 Q E m1 S1 post1)
    · exact ok1.elim⟩
  | .Call (.Name f p) (e :: r) [] _ => ⟨(match noStars (e :: r) with
    | true => (nameM c.N f σ).bind fun fd σ => (els (e :: r) σ).bind fun ds σ => applyM c fd ds σ
    | false => .bad), by
    intro x news hx hN G
    split
    · rename_i hs
      intro P hok s Q E m S post
      refine Call_ ?_
      refine (nmW hx hN _ _ _ _).then hok S post fun v s1 m1 n1 d σ1 ok1 S1 p1 r1 post1 => ?_
      exact fcall_sound (c := c) hx G hs r1 ok1 S1 post1
    · exact Snd.bad⟩
  | .ListComp e0 gs sc p => ⟨(match c.cp (.ListComp e0 gs sc p) σ with
    | some (d, σ') => .ext (.ListComp e0 gs sc p) σ d σ' (.ret d σ')
    | none => .bad), by
    intro x news hx hN G
    split
    · rename_i d σ' hc
      intro P hok s Q E m S post
      exact hok.1 s Q E m news S fun v s' m' news' d' σ'' e S' pre r => by
        obtain ⟨rfl, rfl⟩ := e
        exact post v s' m' news' _ _ hok.2 S' pre r
    · exact Snd.bad⟩
  | _ => ⟨.bad, by
    intro x news hx hN G
    exact Snd.bad⟩
noncomputable def truthW (c : Cfg) (ev : Expr → St → T D) (tr : Expr → St → T Kb) (els : List Expr → St → T (List D)) (e : Expr) (σ : St) : Subtype (TrS c ev tr els e σ) := match e with
  | .UnaryOp .Not e _ => ⟨(tr e σ).bind fun b σ => .ret b.neg σ, by
    intro x news hx hN G
    intro P hok s Q E m S post
    refine isTrue_not ?_
    refine (G.tr _ _ _).then hok S post fun b s1 m1 n1 b' σ1 ok1 S1 p1 r1 post1 => ?_
    cases r1
    exact post1.here0 ok1 S1 (Kb.neg_val _).symm⟩
  | .BoolOp .And [] _ => ⟨.ret .yes σ, by
    intro x news hx hN G
    exact fun P hok s Q E m S post => isTrue_and_nil (post.here0 hok S rfl)⟩
  | .BoolOp .And (e :: r) p => ⟨(tr e σ).bind fun b σ => brK b (tr (.BoolOp .And r p) σ) (.ret .no σ), by
    intro x news hx hN G
    intro P hok s Q E m S post
    refine isTrue_and ?_
    refine (G.tr _ _ _).then hok S post fun b s1 m1 n1 b' σ1 ok1 S1 p1 r1 post1 => ?_
    obtain ⟨o1, o2⟩ := brK_ok ok1
    cases b with
    | true => exact G.tr _ _ _ P (o1 r1.symm) s1 Q E m1 S1 post1
    | false => exact post1.here0 (o2 r1.symm) S1 rfl⟩
  | .BoolOp .Or [] _ => ⟨.ret .no σ, by
    intro x news hx hN G
    exact fun P hok s Q E m S post => isTrue_or_nil (post.here0 hok S rfl)⟩
  | .BoolOp .Or (e :: r) p => ⟨(tr e σ).bind fun b σ => brK b (.ret .yes σ) (tr (.BoolOp .Or r p) σ), by
    intro x news hx hN G
    intro P hok s Q E m S post
    refine isTrue_or ?_
    refine (G.tr _ _ _).then hok S post fun b s1 m1 n1 b' σ1 ok1 S1 p1 r1 post1 => ?_
    obtain ⟨o1, o2⟩ := brK_ok ok1
    cases b with
    | true => exact post1.here0 (o1 r1.symm) S1 rfl
    | false => exact G.tr _ _ _ P (o2 r1.symm) s1 Q E m1 S1 post1⟩
  | .Compare l [op] [r] _ => ⟨(match behindInMarks op r with
    | false => (ev l σ).bind fun a σ => (ev r σ).bind fun b σ => (cmpO op a b σ).bind truthyO
    | true => .bad), by
    intro x news hx hN G
    split
    · rename_i hm
      intro P hok s Q E m S post
      refine wpAny_isTrue_Compare1 ?_ hm
      refine (G.ev _ _ _).then hok S post fun v s1 m1 n1 d σ1 ok1 S1 p1 r1 post1 => ?_
      refine (G.ev _ _ _).then ok1 S1 post1 fun v' s2 m2 n2 d' σ2 ok2 S2 p2 r2 post2 => ?_
      refine (cmpO_sound hx _ (r1.mono p2) r2).then ok2 S2 post2 fun v'' s3 m3 n3 d'' σ3 ok3 S3 p3 r3 post3 => ?_
      exact truthyO_sound r3 P ok3 s3 Q E m3 S3 post3
    · exact Snd.bad⟩
  | .Name y p => ⟨(nameM c.N y σ).bind truthyO, by
    intro x news hx hN G
    exact isTrue_val rfl (nmW hx hN _ _ _ _)⟩
  | .Attribute v a p => ⟨(ev (.Attribute v a p) σ).bind truthyO, by
    intro x news hx hN G
    exact isTrue_val rfl (G.ev _ _ _)⟩
  | .Constant k a p => ⟨(constM k σ).bind truthyO, by
    intro x news hx hN G
    exact isTrue_val rfl constM_sound⟩
  | .BinOp l op r p => ⟨(ev (.BinOp l op r p) σ).bind truthyO, by
    intro x news hx hN G
    exact isTrue_val rfl (G.ev _ _ _)⟩
  | .Call f a k p => ⟨(ev (.Call f a k p) σ).bind truthyO, by
    intro x news hx hN G
    exact isTrue_val rfl (G.ev _ _ _)⟩
  | _ => ⟨.bad, by
    intro x news hx hN G
    exact Snd.bad⟩
mutual
noncomputable def evalM (c : Cfg) : Nat → Expr → St → T D
  | 0, _, _ => .bad
  | n + 1, e, σ => (evalW c (evalM c n) (truthM c n) (evalsM c n) e σ).1
noncomputable def truthM (c : Cfg) : Nat → Expr → St → T Kb
  | 0, _, _ => .bad
  | n + 1, e, σ => (truthW c (evalM c n) (truthM c n) (evalsM c n) e σ).1
noncomputable def evalsM (c : Cfg) : Nat → List Expr → St → T (List D)
  | 0, _, _ => .bad
  | _ + 1, [], σ => .ret [] σ
  | n + 1, e :: r, σ => (evalM c n e σ).bind fun d σ => (evalsM c n r σ).bind fun ds σ => .ret (d :: ds) σ
end
noncomputable abbrev Good (x : Fx) (c : Cfg) (n : Nat) : Prop := GoodF x (evalM c n) (truthM c n) (evalsM c n)
theorem good {x : Fx} {c : Cfg} (hx : x.Ok) (hN : x.env.scope.names = c.N) : ∀ n, Good x c n
  | 0 => ⟨fun _ _ _ => Snd.bad, fun _ _ _ => Snd.bad, fun _ _ _ _ _ => Snd.bad, fun _ => .inl rfl⟩
  | n + 1 => by
    have G := good hx hN n
    refine ⟨fun e σ news => (evalW c _ _ _ e σ).2 x news hx hN G, fun e σ news => (truthW c _ _ _ e σ).2 x news hx hN G, fun es pos σ news hst => ?_, fun _ => .inr rfl⟩
    cases es with
    | nil =>
      show Snd x RL _ (.ret [] σ) σ news
      intro P hok s Q E m S post
      exact args_nil (post.here0 hok S .nil)
    | cons e r =>
      show Snd x RL _ ((evalM c n e σ).bind fun d σ => (evalsM c n r σ).bind fun ds σ => .ret (d :: ds) σ) σ news
      obtain ⟨h1, h2⟩ := Bool.and_eq_true_iff.mp hst
      intro P hok s Q E m S post
      refine args_cons ?_ (star_cons h1)
      refine (G.ev _ _ _).then hok S post fun v s1 m1 n1 d σ1 ok1 S1 p1 r1 post1 => ?_
      refine (G.es _ _ _ _ h2).then ok1 S1 post1 fun vs s2 m2 n2 ds σ2 ok2 S2 p2 r2 post2 => ?_
      exact post2.here0 ok2 S2 (.cons (r1.mono p2) r2)
end
end Mine
namespace Mine
noncomputable section
noncomputable def envOf (N : List (Str × NameKind)) : Env := { (default : Env) with scope := { (default : Scope) with names := N, kind := .function } }
theorem swapped_eq {x : Fx} (hx : x.Ok) {N : List (Str × NameKind)} (hN : x.env.scope.names = N) (ts : List Expr) (e : Expr) : swappedStores ts e x.env = swappedStores ts e (envOf N) := by
  have h1 : x.env.blockKind = (envOf N).blockKind := by unfold Env.blockKind; rw [hx.kind]; rfl
  have h2 : x.env.kindOf = (envOf N).kindOf := funext fun y => by unfold Env.kindOf; rw [hN]; rfl
  delta swappedStores
  dsimp only
  rw [h1, h2]
noncomputable def tupAt (d : D) (n : Nat) (σ : St) : T (List D) := match d with
  | .obj j => (match σ.objs[j]? with
    | some (.tup ds) => (match Nat.beq ds.length n with
      | true => .ret ds σ
      | false => .bad)
    | _ => .bad)
  | _ => .bad
theorem tupAt_sound {x : Fx} (hx : x.Ok) {v : Value} {d : D} {n : Nat} {σ : St} {news : List (Addr × Obj)} (rv : Rel (ads news) v d) : Snd x RL (unpackItems v n none) (tupAt d n σ) σ news := by
  intro P hok s Q E m S post
  unfold tupAt at hok
  split at hok
  · obtain ⟨c, e, rfl⟩ := rv
    split at hok
    · rename_i ds ho
      split at hok
      case h_2 => exact hok.elim
      rename_i h1
      have h1 := Nat.eq_of_beq_eq_true h1
      have hp := hok
      obtain ⟨c', o, f1, f2, r, hm⟩ := S.at ho
      rw [e] at f2; cases f2
      obtain ⟨vs, k, rfl, hi⟩ := r
      have hl := hi.length
      have e1 : n = vs.toArray.size := by rw [List.size_toArray]; omega
      subst e1
      refine unpackItems_tuple hx.room.handled ⟨_, (S.N _ hm).1, rfl, k, rfl⟩ fun h' he => ?_
      have F' : Fr x.h₀ x.env.locals h' m := S.F.extBut he (Nat.le_refl _)
      have N' : News x.h₀ x.env.locals h' news := fun p hp => ⟨he _ _ (Nat.ne_of_lt (Heap.lt_size (S.N p hp).1)) (S.N p hp).1, (S.N p hp).2⟩
      exact post _ _ m news _ _ hp (S.heap F' N' s.toks) (pre_refl _) (by simpa using hi)
    · exact hok.elim
  · exact hok.elim
end
end Mine
namespace Mine
noncomputable section
inductive Fl where
  | next | brk | cont
  | ret (d : D)
noncomputable def RF : List Addr → Flow → Fl → Prop
  | _, .next, .next => True
  | _, .brk, .brk => True
  | _, .cont, .cont => True
  | as, .ret v, .ret d => Rel as v d
  | _, _, _ => False
noncomputable def storeM (N : List (Str × NameKind)) (y : Str) (d : D) (σ : St) : T Unit := match lk y N with
  | some .local => .ret () { σ with loc := put y d σ.loc }
  | some .cell => (match lk y σ.cel with
    | some i => (match σ.objs[i]? with
      | some (.cell _) => .ret () (setO σ i (.cell (some d)))
      | _ => .bad)
    | none => .bad)
  | _ => .bad
noncomputable def locM (N : List (Str × NameKind)) (y : Str) (σ : St) : T D := match lk y N with
  | some .local => (match lk y σ.loc with
    | some d => .ret d σ
    | none => .bad)
  | _ => .bad
noncomputable def setItemM (a i v : D) (σ : St) : T Unit := match a, i, v with
  | .obj j, .int k, .int z => (match σ.objs[j]? with
    | some (.ints xs) => .need (0 ≤ k ∧ k < xs.length ∧ xs.length ≤ sizeLine) (.ret () (setO σ j (.ints (xs.set k.toNat z))))
    | _ => .bad)
  | _, _, _ => .bad
noncomputable def tgtM (c : Cfg) (t : Expr) (d : D) (σ : St) : T Unit := match t with
  | .Name y _ => storeM c.N y d σ
  | .Subscript o i _ => (match notSlice i with
    | true => (evalM c 40 o σ).bind fun od σ => (evalM c 40 i σ).bind fun k σ => setItemM od k d σ
    | false => .bad)
  | _ => .bad
noncomputable def tgtsM (c : Cfg) : List Expr → List D → St → T Unit
  | t :: ts, d :: ds, σ => (tgtM c t d σ).bind fun _ σ => tgtsM c ts ds σ
  | [], [], σ => .ret () σ
  | _, _, _ => .bad
noncomputable def namesM (c : Cfg) : List Str → List D → St → T Unit
  | y :: ys, d :: ds, σ => (storeM c.N y d σ).bind fun _ σ => namesM c ys ds σ
  | [], [], σ => .ret () σ
  | _, _, _ => .bad
noncomputable def nameOfs : List Expr → List Str
  | .Name y _ :: r => y :: nameOfs r
  | _ => []
noncomputable def eqNames : List Str → List Str → Bool
  | [], [] => true
  | a :: l, b :: r => Fast.sEq a b && eqNames l r
  | _, _ => false
theorem eqNames_iff : ∀ {l r : List Str}, eqNames l r = true → l = r
  | [], [], _ => rfl
  | a :: l, b :: r, h => by
    obtain ⟨h1, h2⟩ := Bool.and_eq_true_iff.mp h
    rw [Fast.sEq_iff.mp h1, eqNames_iff h2]
  | [], _ :: _, h => by cases h
  | _ :: _, [], h => by cases h
noncomputable def pureNone : Sem (Option (List Str)) → Bool
  | .pure none => true
  | _ => false
noncomputable def pureSome (ns : List Str) : Sem (Option (List Str)) → Bool
  | .pure (some l) => eqNames l ns
  | _ => false
theorem pureNone_iff {t : Sem (Option (List Str))} (h : pureNone t = true) : t = pure none := by
  unfold pureNone at h
  split at h
  · rfl
  · cases h
theorem pureSome_iff {ns : List Str} {t : Sem (Option (List Str))} (h : pureSome ns t = true) : t = pure (some ns) := by
  unfold pureSome at h
  split at h
  · rw [eqNames_iff h]; rfl
  · cases h
noncomputable def isTuple : Expr → Bool
  | .Tuple .. => true
  | _ => false
noncomputable abbrev RU : List Addr → Unit → Unit → Prop := fun _ _ _ => True
section
variable {x : Fx} {c : Cfg}
theorem storeM_sound (hx : x.Ok) (hN : x.env.scope.names = c.N) {y : Str} {v : Value} {d : D} {σ : St} {news : List (Addr × Obj)} (rv : Rel (ads news) v d) : Snd x RU (storeName x.env y v) (storeM c.N y d σ) σ news := by
  intro P hok s Q E m S post
  unfold storeM at hok
  split at hok
  · rename_i hk
    rw [← hN] at hk
    refine wpAny_storeName_local (lk_lookup hk) S.F.ns (fun h' hn hs => ?_) (by rw [hx.kind]; rfl)
    exact post () _ _ news () _ hok (S.local (S.F.set hn hs) (S.N.set hs) rv (s.toks + 1)) (pre_refl _) trivial
  · rename_i hk
    rw [← hN] at hk
    split at hok
    · rename_i i hl
      split at hok
      · rename_i d' ho
        obtain ⟨a, e1, e2⟩ := S.cel y i hl
        obtain ⟨a', o, f1, f2, r, hm⟩ := S.at ho
        rw [e1] at f2; cases f2
        obtain ⟨sl, e', r⟩ := r
        have w := S.N _ hm
        refine wpAny_storeName_cell hx.kind (lk_lookup hk) e2 ⟨_, w.1, e'⟩ fun h' hc hs => ?_
        obtain ⟨o', g1, g2⟩ := hc
        obtain ⟨pre, post', e3, e4, n1, n2⟩ := (upd_set (o' := o') S.nd f1).split
        have F' : Fr x.h₀ x.env.locals h' m := S.F.change hs w.2.1 w.2.2
        have N' : News x.h₀ x.env.locals h' (news.set i (a, o')) := by
          rw [e4]
          have N0 := S.N
          rw [e3] at N0
          exact news_set N0 n1 n2 hs g1
        exact post.set0 hok S f1 F' N' ⟨some v, g2, v, rfl, rv⟩ trivial
      · exact hok.elim
    · exact hok.elim
  · exact hok.elim
theorem locM_sound (hx : x.Ok) (hN : x.env.scope.names = c.N) {y : Str} {σ : St} {news : List (Addr × Obj)} : Snd x Rel (loadName x.env y) (locM c.N y σ) σ news := by
  intro P hok s Q E m S post
  unfold locM at hok
  split at hok
  · rename_i hk
    rw [← hN] at hk
    split at hok
    · rename_i d hl
      obtain ⟨v, h1, h2⟩ := S.loc y d hl
      exact wpAny_loadName_local hx.kind (lk_lookup hk) S.F.ns h1 (post.here0 hok S h2)
    · exact hok.elim
  · exact hok.elim
theorem setItemM_sound {va vi vv : Value} {a i v : D} {σ : St} {news : List (Addr × Obj)} (ra : Rel (ads news) va a) (ri : Rel (ads news) vi i) (rv : Rel (ads news) vv v) : Snd x RU (setItem va vi vv) (setItemM a i v σ) σ news := by
  intro P hok s Q E m S post
  unfold setItemM at hok
  split at hok
  · obtain ⟨c', e, rfl⟩ := ra
    obtain ⟨t, rfl⟩ := ri
    obtain ⟨u, rfl⟩ := rv
    split at hok
    · rename_i xs ho
      obtain ⟨⟨h1, h2, h3⟩, hp⟩ := hok
      simp only [sizeLine] at h3
      obtain ⟨a', o, f1, f2, r, hm⟩ := S.at ho
      rw [e] at f2; cases f2
      obtain ⟨vs, n, rfl, hi⟩ := r
      refine ksa_set S.F S.N (upd_set S.nd f1) hi h1 h2 (by omega) fun h' F' N' hi' _ _ => ?_
      exact post.set0 hp S f1 F' N' ⟨_, n, rfl, hi'⟩ trivial
    · exact hok.elim
  · exact hok.elim
theorem all2_reverse {α β : Type} {R : α → β → Prop} : ∀ {l : List α} {l' : List β}, All2 R l l' → All2 R l.reverse l'.reverse
  | _, _, .nil => .nil
  | _, _, .cons a b => by rw [List.reverse_cons, List.reverse_cons]; exact (all2_reverse b).append (.cons a .nil)
theorem tgtM_sound (hx : x.Ok) (hN : x.env.scope.names = c.N) {t : Expr} {v : Value} {d : D} {σ : St} {news : List (Addr × Obj)} (rv : Rel (ads news) v d) : Snd x RU (assign t x.env v) (tgtM c t d σ) σ news := by
  intro P hok s Q E m S post
  unfold tgtM at hok
  split at hok
  · exact assign_Name (storeM_sound hx hN rv P hok s Q E m S post)
  · split at hok
    · rw [arm_assign_Subscript]
      refine wpAny_bind (wpAny_holding ?_)
      refine ((good hx hN 40).ev _ _ _).then hok S post fun vo s1 m1 n1 do_ σ1 ok1 S1 p1 r1 post1 => ?_
      refine wpAny_bind (wpAny_holding ?_)
      refine ((good hx hN 40).ev _ _ _).then ok1 S1 post1 fun vi s2 m2 n2 di σ2 ok2 S2 p2 r2 post2 => ?_
      refine wpAny_bind (wpAny_standAt (wpAny_bind (wpAny_holding ?_)))
      refine setItemM_sound (r1.mono p2) r2 ((rv.mono p1).mono p2) P ok2 s2 _ E m2 S2 fun u s3 m3 n3 d3 σ3 hp S3 p3 r3 => ?_
      exact wpAny_release (post2 _ s3 m3 n3 d3 σ3 hp S3 p3 r3)
    · exact hok.elim
  · exact hok.elim
theorem each_plain : ∀ {ts : List Expr}, noStars ts = true → (assignEach ts x.env).length = ts.length ∧ (assignEach ts x.env).findIdx? (·.1) = none ∧ ∀ t ∈ ts, ∀ e p, t ≠ .Starred e p
  | [], _ => ⟨rfl, rfl, fun _ h => by cases h⟩
  | t :: ts, h => by
    obtain ⟨h1, h2⟩ := Bool.and_eq_true_iff.mp h
    obtain ⟨i1, i2, i3⟩ := each_plain h2
    have e : assignEach (t :: ts) x.env = (false, assign t x.env) :: assignEach ts x.env := by
      cases t <;> first | rfl | cases h1
    rw [e]
    refine ⟨by rw [List.length_cons, List.length_cons, i1], by rw [List.findIdx?_cons]; simp [i2], fun t' ht e p q => ?_⟩
    rcases List.mem_cons.mp ht with rfl | ht
    · subst q; cases h1
    · exact i3 t' ht e p q
theorem tgtsM_sound (hx : x.Ok) (hN : x.env.scope.names = c.N) : ∀ {ts : List Expr} {vs : List Value} {ds : List D} {σ : St} {news : List (Addr × Obj)}, All2 (Rel (ads news)) vs ds → (∀ t ∈ ts, ∀ e p, t ≠ .Starred e p) → Snd x RU (assignInOrder ((assignEach ts x.env).map (·.2)) vs) (tgtsM c ts ds σ) σ news
  | [], _, [], σ, news, .nil, _ => fun P hok s Q E m S post => wpAny_pure (post.here0 hok S trivial)
  | [], _, _ :: _, _, _, _, _ => fun P hok => hok.elim
  | t :: ts, _, [], σ, news, _, _ => fun P hok => hok.elim
  | t :: ts, v :: vs, d :: ds, σ, news, .cons r q, hn => by
    intro P hok s Q E m S post
    have e : assignEach (t :: ts) x.env = (false, assign t x.env) :: assignEach ts x.env := by
      cases t <;> first | rfl | exact absurd rfl (hn _ (.head _) _ _)
    rw [e]
    show wpAny _ _ (do holding vs (assign t x.env v); assignInOrder ((assignEach ts x.env).map (·.2)) vs) _ _ _
    refine wpAny_bind (wpAny_holding ?_)
    refine (tgtM_sound hx hN r).then hok S post fun _ s1 m1 n1 _ σ1 ok1 S1 p1 _ post1 => ?_
    exact tgtsM_sound hx hN (all2_mono (fun _ _ r => r.mono p1) q) (fun t ht => hn t (.tail _ ht)) P ok1 s1 Q E m1 S1 post1
theorem namesM_sound (hx : x.Ok) (hN : x.env.scope.names = c.N) : ∀ {ys : List Str} {vs : List Value} {ds : List D} {σ : St} {news : List (Addr × Obj)}, All2 (Rel (ads news)) vs ds → Snd x RU (assignInOrder (ys.map fun n => bindName x.env n) vs) (namesM c ys ds σ) σ news
  | [], _, [], σ, news, .nil => fun P hok s Q E m S post => wpAny_pure (post.here0 hok S trivial)
  | [], _, _ :: _, _, _, _ => fun P hok => hok.elim
  | t :: ts, _, [], σ, news, _ => fun P hok => hok.elim
  | y :: ys, v :: vs, d :: ds, σ, news, .cons r q => by
    intro P hok s Q E m S post
    show wpAny _ _ (do holding vs (bindName x.env y v); assignInOrder (ys.map fun n => bindName x.env n) vs) _ _ _
    refine wpAny_bind (wpAny_holding (bindName_ ?_))
    refine (storeM_sound hx hN r).then hok S post fun _ s1 m1 n1 _ σ1 ok1 S1 p1 _ post1 => ?_
    exact namesM_sound hx hN (all2_mono (fun _ _ r => r.mono p1) q) P ok1 s1 Q E m1 S1 post1
theorem flow_next {P : Fl → St → Prop} {Q : Flow → Shared → Prop} {news : List (Addr × Obj)} {σ : St} {s : Shared} {m : Str → Option Value} (post : Post x RF news P Q) (hp : P .next σ) (S : Sim x σ s m news) : Q .next s := post.here0 hp S trivial
end
noncomputable def ExS (c : Cfg) (ex : List Stmt → St → T Fl) (st : Stmt) (σ : St) (t : T Fl) : Prop := ∀ (x : Fx) (news : List (Addr × Obj)), x.Ok → x.env.scope.names = c.N → (∀ ss σ news, Snd x RF (execs ss x.env) (ex ss σ) σ news) → Snd x RF (exec st x.env) t σ news
noncomputable def exW (c : Cfg) (ex : List Stmt → St → T Fl) (st : Stmt) (σ : St) : Subtype (ExS c ex st σ) := match st with
  | .Pass _ => ⟨.ret .next σ, by
    intro x news hx hN G
    exact fun P hok s Q E m S post => wpAny_Pass (flow_next post hok S)⟩
  | .Break _ => ⟨.ret .brk σ, by
    intro x news hx hN G
    exact fun P hok s Q E m S post => wpAny_Break (post.here0 hok S trivial)⟩
  | .Continue _ => ⟨.ret .cont σ, by
    intro x news hx hN G
    exact fun P hok s Q E m S post => wpAny_Continue (post.here0 hok S trivial)⟩
  | .Return (some e) _ => ⟨(evalM c 40 e σ).bind fun d σ => .ret (.ret d) σ, by
    intro x news hx hN G
    have V := good hx hN 40
    intro P hok s Q E m S post
    refine wpAny_Return_some ?_
    refine (V.ev _ _ _).then hok S post fun v s1 m1 n1 d σ1 ok1 S1 p1 r1 post1 => ?_
    exact post1.here0 ok1 S1 r1⟩
  | .Return none _ => ⟨.ret (.ret .none) σ, by
    intro x news hx hN G
    exact fun P hok s Q E m S post => wpAny_Return_none (post.here0 (d := Fl.ret .none) hok S rfl)⟩
  | .Assign [.Name y _] e _ => ⟨(match noComp e with
    | true => (evalM c 40 e σ).bind fun d σ => (storeM c.N y d σ).bind fun _ σ => .ret .next σ
    | false => .bad), by
    intro x news hx hN G
    have V := good hx hN 40
    split
    · rename_i hc
      intro P hok s Q E m S post
      refine wpAny_Assign_Name ?_ (swaps_none hc)
      refine (V.ev _ _ _).then hok S post fun v s1 m1 n1 d σ1 ok1 S1 p1 r1 post1 => ?_
      refine (storeM_sound hx hN r1).then ok1 S1 post1 fun _ s2 m2 n2 _ σ2 ok2 S2 p2 _ post2 => ?_
      exact flow_next post2 ok2 S2
    · exact Snd.bad⟩
  | .Assign [.Attribute o a _] e _ => ⟨(match noComp e with
    | true => (evalM c 40 e σ).bind fun d σ => (evalM c 40 o σ).bind fun od σ => (setAttrM od a d σ).bind fun _ σ => .ret .next σ
    | false => .bad), by
    intro x news hx hN G
    have V := good hx hN 40
    split
    · rename_i hc
      intro P hok s Q E m S post
      refine plainObj_wpAny_Assign_Attribute ?_ (swaps_none hc)
      refine (V.ev _ _ _).then hok S post fun v s1 m1 n1 d σ1 ok1 S1 p1 r1 post1 => ?_
      refine (V.ev _ _ _).then ok1 S1 post1 fun vo s2 m2 n2 do_ σ2 ok2 S2 p2 r2 post2 => ?_
      refine (setAttrM_sound hx r2 (r1.mono p2)).then ok2 S2 post2 fun _ s3 m3 n3 _ σ3 ok3 S3 p3 _ post3 => ?_
      exact flow_next post3 ok3 S3
    · exact Snd.bad⟩
  | .Assign [.Subscript o i _] e _ => ⟨(match noComp e with
    | true => (evalM c 40 e σ).bind fun d σ => (evalM c 40 o σ).bind fun od σ => (evalM c 40 i σ).bind fun k σ => (setItemM od k d σ).bind fun _ σ => .ret .next σ
    | false => .bad), by
    intro x news hx hN G
    have V := good hx hN 40
    split
    · rename_i hc
      intro P hok s Q E m S post
      refine wpAny_Assign_Subscript ?_ (swaps_none hc)
      refine (V.ev _ _ _).then hok S post fun v s1 m1 n1 d σ1 ok1 S1 p1 r1 post1 => ?_
      refine (V.ev _ _ _).then ok1 S1 post1 fun vo s2 m2 n2 do_ σ2 ok2 S2 p2 r2 post2 => ?_
      refine (V.ev _ _ _).then ok2 S2 post2 fun vi s3 m3 n3 di σ3 ok3 S3 p3 r3 post3 => ?_
      refine (setItemM_sound (r2.mono p3) r3 ((r1.mono p2).mono p3)).then ok3 S3 post3 fun _ s4 m4 n4 _ σ4 ok4 S4 p4 _ post4 => ?_
      exact flow_next post4 ok4 S4
    · exact Snd.bad⟩
  | .Assign [.Tuple ts k p] e _ => ⟨(match noComp e with
    | true => (match isTuple e && Nat.beq (nameOfs ts).length ts.length with
      | true => (match pureSome (nameOfs ts) (swappedStores [.Tuple ts k p] e (envOf c.N)) with
        | true => (evalM c 40 e σ).bind fun d σ => (tupAt d (nameOfs ts).length σ).bind fun ds σ => (namesM c (nameOfs ts).reverse ds.reverse σ).bind fun _ σ => .ret .next σ
        | false => .bad)
      | false => (match noStars ts && pureNone (swappedStores [.Tuple ts k p] e (envOf c.N)) with
        | true => (evalM c 40 e σ).bind fun d σ => (tupAt d ts.length σ).bind fun ds σ => (tgtsM c ts ds σ).bind fun _ σ => .ret .next σ
        | false => .bad))
    | false => .bad), by
    intro x news hx hN G
    have V := good hx hN 40
    split
    · rename_i hc
      split
      · split
        case h_2 => exact Snd.bad
        rename_i hs
        have hs := pureSome_iff hs
        intro P hok s Q E m S post
        refine Assign_Tuple_swapped ?_ (by unfold swapsWithSole; exact swaps_none hc) ((swapped_eq hx hN _ _).trans hs)
        refine (V.ev _ _ _).then hok S post fun v s1 m1 n1 d σ1 ok1 S1 p1 r1 post1 => ?_
        refine (tupAt_sound hx r1).then ok1 S1 post1 fun vs s2 m2 n2 ds σ2 ok2 S2 p2 r2 post2 => ?_
        refine (namesM_sound hx hN (all2_reverse r2)).then ok2 S2 post2 fun _ s3 m3 n3 _ σ3 ok3 S3 p3 _ post3 => ?_
        exact flow_next post3 ok3 S3
      · split
        case h_2 => exact Snd.bad
        rename_i hs
        obtain ⟨hst, hs⟩ := Bool.and_eq_true_iff.mp hs
        have hs := pureNone_iff hs
        intro P hok s Q E m S post
        refine Assign_Tuple ?_ (by unfold swapsWithSole; exact swaps_none hc) ((swapped_eq hx hN _ _).trans hs)
        refine (V.ev _ _ _).then hok S post fun v s1 m1 n1 d σ1 ok1 S1 p1 r1 post1 => ?_
        rw [arm_assign_Tuple]
        obtain ⟨i1, i2, i3⟩ := each_plain (x := x) hst
        refine wpAny_bind (wpAny_standAt ?_)
        unfold unpack
        rw [i1, i2]
        refine wpAny_bind (wpAny_holding ?_)
        refine (tupAt_sound hx r1).then ok1 S1 post1 fun vs s2 m2 n2 ds σ2 ok2 S2 p2 r2 post2 => ?_
        refine (tgtsM_sound hx hN r2 i3).then ok2 S2 post2 fun _ s3 m3 n3 _ σ3 ok3 S3 p3 _ post3 => ?_
        exact flow_next post3 ok3 S3
    · exact Snd.bad⟩
  | .AugAssign (.Name y _) op e _ => ⟨(locM c.N y σ).bind fun a σ => (evalM c 40 e σ).bind fun b σ => (augM op a b σ).bind fun d σ => (storeM c.N y d σ).bind fun _ σ => .ret .next σ, by
    intro x news hx hN G
    have V := good hx hN 40
    intro P hok s Q E m S post
    refine wpAny_AugAssign_Name ?_
    refine (locM_sound hx hN).then hok S post fun va s1 m1 n1 da σ1 ok1 S1 p1 r1 post1 => ?_
    refine (V.ev _ _ _).then ok1 S1 post1 fun vb s2 m2 n2 db σ2 ok2 S2 p2 r2 post2 => ?_
    refine (augM_sound _ (r1.mono p2) r2).then ok2 S2 post2 fun vd s3 m3 n3 dd σ3 ok3 S3 p3 r3 post3 => ?_
    refine (storeM_sound hx hN r3).then ok3 S3 post3 fun _ s4 m4 n4 _ σ4 ok4 S4 p4 _ post4 => ?_
    exact flow_next post4 ok4 S4⟩
  | .AugAssign (.Attribute o at_ _) op e _ => ⟨(evalM c 40 o σ).bind fun od σ => (attrM od at_ σ).bind fun a σ => (evalM c 40 e σ).bind fun b σ => (augM op a b σ).bind fun d σ => (setAttrM od at_ d σ).bind fun _ σ => .ret .next σ, by
    intro x news hx hN G
    have V := good hx hN 40
    intro P hok s Q E m S post
    refine wpAny_AugAssign_AttributeAny ?_
    refine (V.ev _ _ _).then hok S post fun vo s1 m1 n1 do_ σ1 ok1 S1 p1 r1 post1 => ?_
    refine (attrM_sound hx r1 true).then ok1 S1 post1 fun va s2 m2 n2 da σ2 ok2 S2 p2 r2 post2 => ?_
    refine (V.ev _ _ _).then ok2 S2 post2 fun vb s3 m3 n3 db σ3 ok3 S3 p3 r3 post3 => ?_
    refine (augM_sound _ (r2.mono p3) r3).then ok3 S3 post3 fun vd s4 m4 n4 dd σ4 ok4 S4 p4 r4 post4 => ?_
    refine (setAttrM_sound hx ((r1.mono p2).mono p3 |>.mono p4) r4).then ok4 S4 post4 fun _ s5 m5 n5 _ σ5 ok5 S5 p5 _ post5 => ?_
    exact flow_next post5 ok5 S5⟩
  | .If t b o _ => ⟨(truthM c 40 t σ).bind fun k σ => brK k (ex b σ) (ex o σ), by
    intro x news hx hN G
    have V := good hx hN 40
    intro P hok s Q E m S post
    refine wpAny_If ?_
    refine (V.tr _ _ _).then hok S post fun b s1 m1 n1 b' σ1 ok1 S1 p1 r1 post1 => ?_
    obtain ⟨o1, o2⟩ := brK_ok ok1
    cases b with
    | true => exact G _ _ _ P (o1 r1.symm) s1 Q E m1 S1 post1
    | false => exact G _ _ _ P (o2 r1.symm) s1 Q E m1 S1 post1⟩
  | .Expr e _ => ⟨(match noComp e with
    | true => (evalM c 40 e σ).bind fun _ σ => .ret .next σ
    | false => .bad), by
    intro x news hx hN G
    have V := good hx hN 40
    have int : interactive x.env = false := by unfold interactive; rw [hx.kind]; rfl
    split
    · rename_i hc
      intro P hok s Q E m S post
      refine wpAny_Expr_any ?_ int (swaps_none hc)
      refine (V.ev _ _ _).then hok S post fun v s1 m1 n1 d σ1 ok1 S1 p1 r1 post1 => ?_
      exact flow_next post1 ok1 S1
    · exact Snd.bad⟩
  | _ => ⟨.bad, by
    intro x news hx hN G
    exact Snd.bad⟩
mutual
noncomputable def execM (c : Cfg) : Nat → List Stmt → St → T Fl
  | 0, _, _ => .bad
  | _ + 1, [], σ => .ret .next σ
  | n + 1, st :: rest, σ => (exec1 c n st σ).bind fun f σ => match f with
    | .next => execM c n rest σ
    | f => .ret f σ
noncomputable def exec1 (c : Cfg) : Nat → Stmt → St → T Fl
  | 0, _, _ => .bad
  | n + 1, st, σ => (exW c (execM c n) st σ).1
end
structure GoodS (x : Fx) (c : Cfg) (n : Nat) : Prop where
  ss : ∀ ss σ news, Snd x RF (execs ss x.env) (execM c n ss σ) σ news
  s1 : ∀ st σ news, Snd x RF (exec st x.env) (exec1 c n st σ) σ news
theorem goodS {x : Fx} {c : Cfg} (hx : x.Ok) (hN : x.env.scope.names = c.N) : ∀ n, GoodS x c n
  | 0 => ⟨fun _ _ _ => Snd.bad, fun _ _ _ => Snd.bad⟩
  | n + 1 => by
    have G := goodS hx hN n
    refine ⟨fun ss σ news => ?_, fun st σ news => (exW c _ st σ).2 x news hx hN G.ss⟩
    cases ss with
    | nil => exact fun P hok s Q E m S post => wpAny_execs_nil (flow_next post hok S)
    | cons st rest =>
      intro P hok s Q E m S post
      refine wpAny_execs_cons ?_
      refine (G.s1 _ _ _).then hok S post fun f s1 m1 n1 f' σ1 ok1 S1 p1 r1 post1 => ?_
      cases f' with
      | next => cases f <;> first | exact G.ss _ _ _ P ok1 s1 Q E m1 S1 post1 | exact r1.elim
      | brk => cases f <;> first | exact post1.here0 ok1 S1 r1 | exact r1.elim
      | cont => cases f <;> first | exact post1.here0 ok1 S1 r1 | exact r1.elim
      | ret d => cases f <;> first | exact post1.here0 ok1 S1 r1 | exact r1.elim
end
end Mine
namespace Mine
noncomputable section
noncomputable def PostS (x : Fx) (P : Fl → St → Prop) (Q : Flow → Shared → Prop) : Prop :=
  ∀ f s' m' news' f' σ', P f' σ' → Sim x σ' s' m' news' → x.a0 <+: ads news' → RF (ads news') f f' → Q f s'
noncomputable def ExOk (x : Fx) (ss : List Stmt) (σ : St) (P : Fl → St → Prop) : Prop :=
  ∀ (s : Shared) (Q : Flow → Shared → Prop) (E : Value → Shared → Prop) (m : Str → Option Value) (news : List (Addr × Obj)), Sim x σ s m news → x.a0 <+: ads news → PostS x P Q → wpAny (model pw x.w) x.A (execs ss x.env) Q E s
theorem ExOk.tree {x : Fx} {c : Cfg} (hx : x.Ok) (hN : x.env.scope.names = c.N) {n : Nat} {ss : List Stmt} {σ : St} {P : Fl → St → Prop} (h : ok x (execM c n ss σ) P) : ExOk x ss σ P :=
  fun s Q E m news S a post => (goodS hx hN n).ss _ _ _ P h s Q E m S fun f s' m' n' f' σ' p S' pre r => post f s' m' n' f' σ' p S' (a.trans pre) r
theorem ExOk.mono {x : Fx} {ss : List Stmt} {σ : St} {P P' : Fl → St → Prop} (h : ExOk x ss σ P) (k : ∀ f σ, P f σ → P' f σ) : ExOk x ss σ P' :=
  fun s Q E m news S a post => h s Q E m news S a fun v s' m' n' d σ' p => post v s' m' n' d σ' (k _ _ p)
theorem execs_app (env : Env) : ∀ (a b : List Stmt), execs (a ++ b) env = (do match ← execs a env with | .next => execs b env | f => pure f)
  | [], b => rfl
  | st :: a, b => by
    rw [List.cons_append, execs_cons, execs_cons, execs_app env a b, bind_assoc]
    refine congrArg _ (funext fun f => ?_)
    cases f <;> rfl
noncomputable def onNext (f : Fl) (σ : St) (k : St → Prop) (P : Fl → St → Prop) : Prop := match f with
  | .next => k σ
  | f => P f σ
theorem ExOk.app {x : Fx} {a b : List Stmt} {σ : St} {P : Fl → St → Prop} (h : ExOk x a σ fun f σ' => onNext f σ' (fun σ' => ExOk x b σ' P) P) : ExOk x (a ++ b) σ P := by
  intro s Q E m news S a0 post
  rw [execs_app]
  refine wpAny_bind (h s _ E m news S a0 fun f s1 m1 n1 f' σ1 p S1 pre r => ?_)
  cases f' with
  | next => cases f <;> first | exact p s1 Q E m1 n1 S1 pre post | exact r.elim
  | brk => cases f <;> first | exact wpAny_pure (post _ _ m1 n1 _ _ p S1 pre r) | exact r.elim
  | cont => cases f <;> first | exact wpAny_pure (post _ _ m1 n1 _ _ p S1 pre r) | exact r.elim
  | ret d => cases f <;> first | exact wpAny_pure (post _ _ m1 n1 _ _ p S1 pre r) | exact r.elim
noncomputable def prefN : Nat → Nat → List Nat → Bool
  | 0, _, _ => true
  | _ + 1, _, [] => false
  | k + 1, i, j :: r => Nat.beq i j && prefN k (i + 1) r
theorem prefN_eq : ∀ {k i : Nat} {ids : List Nat}, prefN k i ids = true → ∃ r, ids = List.range' i k ++ r
  | 0, _, ids, _ => ⟨ids, rfl⟩
  | _ + 1, _, [], h => by cases h
  | k + 1, i, j :: r, h => by
    obtain ⟨h1, h2⟩ := Bool.and_eq_true_iff.mp h
    obtain ⟨t, e⟩ := prefN_eq h2
    have := Nat.eq_of_beq_eq_true h1
    subst this
    exact ⟨t, by rw [e, List.range'_succ]; rfl⟩
theorem prefN_ads {k : Nat} {ids : List Nat} {news : List (Addr × Obj)} {a0 : List Addr} (h : prefN k 0 ids = true) (hk : a0.length = k) (pre : a0 <+: ads news) : a0 <+: ads (subN news ids) := by
  obtain ⟨r, rfl⟩ := prefN_eq h
  have : ads (subN news (List.range' 0 k ++ r)) = a0 ++ ads (subN news r) := by
    unfold subN
    show (((List.range' 0 k ++ r).map _).map _) = _
    rw [List.map_append, List.map_append]
    congr 1
    obtain ⟨t, ht⟩ := pre
    refine List.ext_getElem? fun i => ?_
    rw [List.map_map, List.getElem?_map]
    by_cases hi : i < k
    · rw [List.getElem?_range' hi]
      have e1 : (ads news)[i]? = a0[i]? := by rw [← ht, List.getElem?_append_left (by omega)]
      have hl : i < news.length := by
        have : (ads news).length = a0.length + t.length := by rw [← ht, List.length_append]
        have e : (ads news).length = news.length := by simp [ads]
        omega
      have e2 : (ads news)[i]? = some (news.getD i (0, default)).1 := by
        show (news.map (·.1))[i]? = _
        rw [List.getElem?_map, some_of_lt (0, default) hl]; rfl
      rw [← e1, e2]
      simp
    · rw [List.getElem?_eq_none (by simpa using hi), List.getElem?_eq_none (by omega)]
      rfl
  rw [this]
  exact ⟨_, rfl⟩
theorem lk_take {β : Type} {y : Str} {d : β} : ∀ {n : Nat} {l : List (Str × β)}, lk y (l.take n) = some d → lk y l = some d
  | 0, l, h => by simp [lk] at h
  | n + 1, [], h => by simp [lk] at h
  | n + 1, p :: l, h => by
    rw [List.take_succ_cons] at h
    unfold lk at h ⊢
    cases q : Fast.sEq p.1 y with
    | true => rw [q] at h; exact h
    | false => rw [q] at h; exact lk_take h
theorem lk_map {β γ : Type} {f : β → γ} {y : Str} {d : γ} : ∀ {l : List (Str × β)}, lk y (l.map fun p => (p.1, f p.2)) = some d → ∃ e, lk y l = some e ∧ d = f e ∧ (y, e) ∈ l
  | [], h => by simp [lk] at h
  | p :: l, h => by
    rw [List.map_cons] at h
    unfold lk at h ⊢
    cases q : Fast.sEq p.1 y with
    | true =>
      rw [q] at h
      cases h
      have := Fast.sEq_iff.mp q
      subst this
      exact ⟨_, rfl, rfl, .head _⟩
    | false => rw [q] at h; obtain ⟨e, h1, h2, h3⟩ := lk_map h; exact ⟨e, h1, h2, .tail _ h3⟩
noncomputable def cutSt (ids : List Nat) (n : Nat) (σ : St) : St := ⟨(σ.loc.take n).map fun p => (p.1, p.2.ren (pos ids)), σ.cel.map fun p => (p.1, pos ids p.2), subO σ.objs ids⟩
noncomputable def cutOk (k : Nat) (ids : List Nat) (n : Nat) (σ : St) : Bool := prefN k 0 ids && closedN ids ((σ.loc.take n).map (·.2)) σ.objs && allN (σ.cel.map (·.2)) (memN ids)
theorem Sim.cut {x : Fx} (hx : x.Ok) {k n : Nat} {ids : List Nat} {σ : St} {s : Shared} {m : Str → Option Value} {news : List (Addr × Obj)} (S : Sim x σ s m news) (h : cutOk k ids n σ = true) : Sim x (cutSt ids n σ) s m (subN news ids) := by
  unfold cutOk at h
  obtain ⟨h, h6⟩ := Bool.and_eq_true_iff.mp h
  obtain ⟨h5, hc⟩ := Bool.and_eq_true_iff.mp h
  obtain ⟨hc, h4⟩ := Bool.and_eq_true_iff.mp hc
  obtain ⟨hc, h3⟩ := Bool.and_eq_true_iff.mp hc
  obtain ⟨h1, h2⟩ := Bool.and_eq_true_iff.mp hc
  have nd := nodupN_iff h1
  have hl : ∀ i ∈ ids, i < σ.objs.length := fun i hi => Nat.le_of_ble_eq_true (allN_iff h2 i hi)
  have hcl : ∀ i ∈ ids, ∀ j ∈ (σ.objs.getD i .deq).refs, j ∈ ids := fun i hi j hj => memN_iff.mp (allN_iff (allN_iff h3 i hi) j hj)
  have har : ∀ j ∈ ((σ.loc.take n).map (·.2)).flatMap D.refs, j ∈ ids := fun j hj => memN_iff.mp (allN_iff h4 j hj)
  have hce : ∀ j ∈ σ.cel.map (·.2), j ∈ ids := fun j hj => memN_iff.mp (allN_iff h6 j hj)
  have O := call_own hx S nd hl hcl
  refine ⟨S.F, fun p hp => S.N p (mem_sub S hl hp), O.nd, fun y d q => ?_, fun y i q => ?_, O.obj, S.gens, S.os⟩
  · obtain ⟨e, q1, rfl, q3⟩ := lk_map q
    obtain ⟨v, r1, r2⟩ := S.loc y e (lk_take q1)
    exact ⟨v, r1, r2.ren fun j hj a ha => ads_sub S hl (har j (List.mem_flatMap.mpr ⟨e, List.mem_map.mpr ⟨_, q3, rfl⟩, hj⟩)) ha⟩
  · obtain ⟨e, q1, rfl, q3⟩ := lk_map q
    obtain ⟨a, r1, r2⟩ := S.cel y e q1
    exact ⟨a, ads_sub S hl (hce e (List.mem_map.mpr ⟨_, q3, rfl⟩)) r1, r2⟩
theorem cutOk_pref {k n : Nat} {ids : List Nat} {σ : St} (h : cutOk k ids n σ = true) : prefN k 0 ids = true := by
  unfold cutOk at h
  obtain ⟨h, h6⟩ := Bool.and_eq_true_iff.mp h
  exact (Bool.and_eq_true_iff.mp h).1
/-- forget what no later line needs -/
theorem ExOk.cut {x : Fx} (hx : x.Ok) {k n : Nat} (ids : List Nat) {ss : List Stmt} {σ : St} {P : Fl → St → Prop} (hk : x.a0.length = k) (h : cutOk k ids n σ = true) (g : ExOk x ss (cutSt ids n σ) P) : ExOk x ss σ P :=
  fun s Q E m news S a post => g s Q E m _ (S.cut hx h) (prefN_ads (cutOk_pref h) hk a) post
noncomputable def Cut (k : Nat) (σ : St) (I : St → Prop) : Prop := ∃ ids n, cutOk k ids n σ = true ∧ I (cutSt ids n σ)
noncomputable def wTurn (k : Nat) (n : Nat) (I : Nat → St → Prop) (P : Fl → St → Prop) (f : Fl) (σ : St) : Prop := match f with
  | .next => ∃ j, j < n ∧ Cut k σ (I j)
  | .cont => ∃ j, j < n ∧ Cut k σ (I j)
  | .brk => P .next σ
  | .ret d => P (.ret d) σ
theorem ExOk.while {x : Fx} {c : Cfg} (hx : x.Ok) (hN : x.env.scope.names = c.N) {k : Nat} (hk : x.a0.length = k) {test : Expr} {body : List Stmt} {pos : Pos} {P : Fl → St → Prop} (I : Nat → St → Prop)
    (turn : ∀ n σ, I n σ → ok x (truthM c 40 test σ) fun b σ1 => if b.val then ExOk x body σ1 (wTurn k n I P) else P .next σ1) {n : Nat} {σ : St} (h : Cut k σ (I n)) : ExOk x [.While test body [] pos] σ P := by
  intro s Q E m news S a0 post
  refine wpAny_execs_cons ?_
  refine wpAny_While ?_
  have get : ∀ {n : Nat} {σ : St} {s : Shared} {m : Str → Option Value} {news : List (Addr × Obj)}, Sim x σ s m news → x.a0 <+: ads news → Cut k σ (I n) → ∃ σ m news', I n σ ∧ Sim x σ s m news' ∧ x.a0 <+: ads news' := fun S a ⟨ids, q, h1, h2⟩ => ⟨_, _, _, h2, S.cut hx h1, prefN_ads (cutOk_pref h1) hk a⟩
  refine codeAny_whileLoop (fun n s => ∃ σ m news', I n σ ∧ Sim x σ s m news' ∧ x.a0 <+: ads news') (fun n s hI => ?_) n (get S a0 h)
  obtain ⟨σ, m, news', hI, S, pre⟩ := hI
  refine (good hx hN 40).tr _ _ _ _ (turn n σ hI) s _ _ m S fun b s1 m1 n1 b' σ1 p S1 pre1 r => ?_
  cases b with
  | true =>
    have r1 : b'.val = true := Eq.symm r
    have p : if b'.val = true then _ else P Fl.next σ1 := p
    rw [if_pos r1] at p
    rw [if_pos rfl]
    refine p s1 _ _ m1 n1 S1 (pre.trans pre1) fun f s2 m2 n2 f' σ2 q S2 pr r2 => ?_
    cases f' with
    | next =>
      obtain ⟨j, hj, hI'⟩ := q
      cases f <;> first | exact ⟨j, hj, get S2 pr hI'⟩ | exact r2.elim
    | cont =>
      obtain ⟨j, hj, hI'⟩ := q
      cases f <;> first | exact ⟨j, hj, get S2 pr hI'⟩ | exact r2.elim
    | brk => cases f <;> first | exact wpAny_execs_nil (post _ _ m2 n2 .next _ q S2 pr trivial) | exact r2.elim
    | ret d => cases f <;> first | exact post _ _ m2 n2 _ _ q S2 pr r2 | exact r2.elim
  | false =>
    have r' : ¬ (b'.val = true) := by rw [show b'.val = false from Eq.symm r]; simp
    have p : if b'.val = true then _ else P Fl.next σ1 := p
    rw [if_neg r'] at p
    rw [if_neg (by simp)]
    exact wpAny_execs_nil (wpAny_execs_nil (post _ _ m1 n1 .next _ p S1 (pre.trans pre1) trivial))
noncomputable def plainFn (fd : FuncData) : Bool := (fd.scope.names.all fun p => match p.2 with | .cell => false | _ => true) && (fd.scope.kind == .function) && !fd.scope.isCoroutine && !fd.scope.isGenerator && Nat.beq fd.globals mainGlobals && Nat.beq fd.builtins builtinsNs && fd.closure.isEmpty
noncomputable def namesOk (fd : FuncData) (names : List Str) : Bool := match names with
  | [] => true
  | y :: r => (match lk y fd.scope.names with | some .local => true | _ => false) && !(r.any fun z => Fast.sEq z y) && namesOk fd r
theorem namesOk_mem {fd : FuncData} : ∀ {names : List Str}, namesOk fd names = true → ∀ y ∈ names, fd.scope.names.lookup y = some .local
  | [], _, _, h => by cases h
  | z :: r, h, y, hy => by
    unfold namesOk at h
    obtain ⟨h, h3⟩ := Bool.and_eq_true_iff.mp h
    obtain ⟨h1, h2⟩ := Bool.and_eq_true_iff.mp h
    rcases List.mem_cons.mp hy with rfl | hy
    · split at h1
      · rename_i q; exact lk_lookup q
      · cases h1
    · exact namesOk_mem h3 y hy
theorem namesOk_nodup {fd : FuncData} : ∀ {names : List Str}, namesOk fd names = true → names.Nodup
  | [], _ => List.nodup_nil
  | z :: r, h => by
    unfold namesOk at h
    obtain ⟨h, h3⟩ := Bool.and_eq_true_iff.mp h
    obtain ⟨h1, h2⟩ := Bool.and_eq_true_iff.mp h
    refine List.nodup_cons.mpr ⟨fun q => ?_, namesOk_nodup h3⟩
    have : (r.any fun y => Fast.sEq y z) = true := List.any_eq_true.mpr ⟨z, q, Fast.sEq_iff.mpr rfl⟩
    rw [this] at h2; cases h2
theorem lookup_append_none {y : Str} {v : Value} : ∀ (l : List (Str × Value)) (k : List (Str × Value)), l.lookup y = none → (l ++ k).lookup y = k.lookup y
  | [], _, _ => rfl
  | p :: l, k, h => by
    rw [List.cons_append, List.lookup_cons]
    rw [List.lookup_cons] at h
    split at h
    · cases h
    · exact lookup_append_none (v := v) l k h
theorem lookup_none_of {y : Str} : ∀ (l : List (Str × Value)), y ∉ l.map (·.1) → l.lookup y = none
  | [], _ => rfl
  | p :: l, h => by
    rw [List.lookup_cons]
    have : (y == p.1) = false := beq_eq_false_iff_ne.mpr fun e => h (by rw [e]; exact .head _)
    rw [this]; exact lookup_none_of l fun q => h (.tail _ q)
theorem binds_get {as : List Addr} {y : Str} {d : D} : ∀ {names : List Str} {vals : List Value} {ds : List D}, names.Nodup → All2 (Rel as) vals ds → lk y (names.zip ds) = some d → ∃ v, (names.zip vals).reverse.lookup y = some v ∧ Rel as v d
  | [], _, _, _, _, h => by simp [lk] at h
  | z :: r, _, _, nd, .nil, h => by simp [lk] at h
  | z :: r, v :: vals, e :: ds, nd, .cons rv q, h => by
    obtain ⟨n1, n2⟩ := List.nodup_cons.mp nd
    rw [List.zip_cons_cons] at h ⊢
    unfold lk at h
    rw [List.reverse_cons]
    have rest : ∀ w, y = w → w ∉ r → ((r.zip vals).reverse).lookup y = none := fun w e hw => by
      refine lookup_none_of _ fun q => hw ?_
      rw [List.map_reverse, List.mem_reverse] at q
      obtain ⟨p, hp, e'⟩ := List.mem_map.mp q
      rw [← e, ← e']
      exact (List.of_mem_zip hp).1
    cases z' : Fast.sEq z y with
    | true =>
      rw [z'] at h
      cases h
      have ez := Fast.sEq_iff.mp z'
      subst ez
      refine ⟨v, ?_, rv⟩
      rw [lookup_append_none (v := v) _ _ (rest z rfl n1), List.lookup_cons, beq_self_eq_true]
    | false =>
      rw [z'] at h
      obtain ⟨v', e1, e2⟩ := binds_get n2 q h
      refine ⟨v', ?_, e2⟩
      rw [lookup_app_some e1]
where
  lookup_app_some {y : Str} {v : Value} : ∀ {l k : List (Str × Value)}, l.lookup y = some v → (l ++ k).lookup y = some v
    | [], _, h => by cases h
    | p :: l, k, h => by
      rw [List.cons_append, List.lookup_cons]
      rw [List.lookup_cons] at h
      split at h
      · exact h
      · exact lookup_app_some h
noncomputable def retOf (k : Nat) (P : D → List AO → Prop) (f : Fl) (σ : St) : Prop := match f with
  | .ret d => ∃ ids, prefN k 0 ids = true ∧ closedN ids [d] σ.objs = true ∧ P (d.ren (pos ids)) (subO σ.objs ids)
  | .next => ∃ ids, prefN k 0 ids = true ∧ closedN ids [] σ.objs = true ∧ P .none (subO σ.objs ids)
  | _ => False
structure Entered (x : Fx) (w : World) (n : Nat) (fd : FuncData) (k : Nat) : Prop where
  ok : x.Ok
  w : x.w = w
  n : x.n = n
  sc : x.env.scope = fd.scope
  a0 : x.a0.length = k
theorem enter {w : World} {n : Nat} {f : Addr} {args : List D} {os : List AO} {P : D → List AO → Prop} {fd : FuncData} {body : List Stmt} {names : List Str} {oc : Value}
    (ho : (K w.params).lookup f = some ⟨oc, none, .func fd, #[]⟩) (hp : plainFn fd = true) (hcd : codeIn (K w.params) fd.code fd.qualname = true) (hbody : fd.body = .stmts body) (hn : namesOk fd names = true)
    (hbind : ∀ (s : Shared) (vals : List Value), vals.length = args.length → BindsTo s fd ⟨vals, []⟩ (names.zip vals))
    (h : ∀ x : Fx, Entered x w n fd os.length → ExOk x body ⟨names.zip args, [], os⟩ (retOf os.length P)) : CallOk w n f args os P := by
  intro A s hb news vals R rm hB O ra hg post
  unfold plainFn at hp
  obtain ⟨hp, h7⟩ := Bool.and_eq_true_iff.mp hp
  obtain ⟨hp, h6⟩ := Bool.and_eq_true_iff.mp hp
  obtain ⟨hp, h5⟩ := Bool.and_eq_true_iff.mp hp
  obtain ⟨hp, h4⟩ := Bool.and_eq_true_iff.mp hp
  obtain ⟨hp, h3⟩ := Bool.and_eq_true_iff.mp hp
  obtain ⟨h1, h2⟩ := Bool.and_eq_true_iff.mp hp
  have kin := hB.kin.keeps O.keep
  have hroom : A.depth < recursionLimit := by have := rm.depth; omega
  have hcell : ∀ p ∈ fd.scope.names, p.2 ≠ .cell := fun p hm e => by
    have := List.all_eq_true.mp h1 p hm
    rw [e] at this; cases this
  have hbd := hbind s vals ra.length
  have hloc : ∀ y ∈ names.zip vals, fd.scope.names.lookup y.1 = some .local := fun y hy => namesOk_mem hn y.1 (List.of_mem_zip hy).1
  refine codeAny_call_def hroom (kin _ _ ho) rfl (hB.nolimit.keeps O.keep) (codeRec_of kin hcd) hbody hbd hcell hloc (fun h₁ hns hk => ?_) (by simpa using h3) (by simpa using h4) (beq_iff_eq.mp h2)
  have rd := rm.depth
  have ru := rm.units
  let x : Fx := ⟨w, hb, callEnv fd s.heap.objs.size f, A.deeper (callEnv fd s.heap.objs.size f), n, s.os, ads news⟩
  have hx : x.Ok := by
    refine ⟨hB, beq_iff_eq.mp h2, Nat.eq_of_beq_eq_true h5, ?_, ⟨?_, ?_, rm.handled⟩⟩
    · show (callEnv fd s.heap.objs.size f).builtins = builtinsNs
      exact Nat.eq_of_beq_eq_true h6
    · show A.depth + 1 + 8 * n < recursionLimit; omega
    · show A.units + 3 + 64 + 40 * n < cLine; omega
  have E := h x ⟨hx, rfl, rfl, rfl, by show (ads news).length = _; rw [← O.obj.length]; simp [ads]⟩
  have S : Sim x ⟨names.zip args, [], os⟩ { s with heap := h₁, toks := s.toks + (names.zip vals).length } (fun y => (names.zip vals).reverse.lookup y) news := by
    refine ⟨⟨hns, fun b o e => hk _ _ (O.keep b o e), O.size⟩, fun p hp => ⟨hk _ _ (O.own p hp).1, Nat.ne_of_lt (Heap.lt_size (O.own p hp).1), (O.own p hp).2⟩, O.nd, fun y d q => ?_, fun y i q => (by cases q), O.obj, hg, rfl⟩
    exact binds_get (namesOk_nodup hn) ra q
  refine E _ _ _ _ news S (pre_refl _) fun fl s' m' news' fl' σ' p S' pre r => ?_
  have hL : ∃ oL, s'.heap.get? s.heap.objs.size = some oL := by obtain ⟨o, _, _, e, _⟩ := S'.F.ns; exact ⟨o, e⟩
  obtain ⟨oL, hL⟩ := hL
  have fin : ∀ ids d v, prefN os.length 0 ids = true → closedN ids [d] σ'.objs = true → P (d.ren (pos ids)) (subO σ'.objs ids) → Rel (ads news') v d → R (.ok (.ret v)) s' := fun ids d v g1 hc g3 g4 => by
    obtain ⟨hc, h4⟩ := Bool.and_eq_true_iff.mp hc
    obtain ⟨hc, h3⟩ := Bool.and_eq_true_iff.mp hc
    obtain ⟨h1, h2⟩ := Bool.and_eq_true_iff.mp hc
    have nd := nodupN_iff h1
    have hl : ∀ i ∈ ids, i < σ'.objs.length := fun i hi => Nat.le_of_ble_eq_true (allN_iff h2 i hi)
    have hcl : ∀ i ∈ ids, ∀ j ∈ (σ'.objs.getD i .deq).refs, j ∈ ids := fun i hi j hj => memN_iff.mp (allN_iff (allN_iff h3 i hi) j hj)
    have har : ∀ j ∈ [d].flatMap D.refs, j ∈ ids := fun j hj => memN_iff.mp (allN_iff h4 j hj)
    have O2 := call_own hx S' nd hl hcl
    have O' : Own hb s'.heap (subN news' ids) (subO σ'.objs ids) := ⟨S'.F.keep, Nat.le_of_lt (Nat.lt_of_le_of_lt O.size (Heap.lt_size hL)), fun p hp => ⟨(S'.N p (mem_sub S' hl hp)).1, (S'.N p (mem_sub S' hl hp)).2.2⟩, O2.nd, O2.obj⟩
    have hk : (ads news).length = os.length := by rw [← O.obj.length]; simp [ads]
    exact post v s' (subN news' ids) _ _ g3 O' (prefN_ads g1 hk pre) (g4.ren fun j hj a ha => ads_sub S' hl (har j (List.mem_flatMap.mpr ⟨d, .head _, hj⟩)) ha) S'.gens S'.os
  cases fl' with
  | next =>
    obtain ⟨ids, g1, g2, g3⟩ := p
    cases fl <;> first | exact fin ids .none .none g1 g2 g3 rfl | exact r.elim
  | ret d =>
    obtain ⟨ids, g1, g2, g3⟩ := p
    cases fl <;> first | exact fin ids d _ g1 g2 g3 r | exact r.elim
  | brk => exact p.elim
  | cont => exact p.elim
end
end Mine
namespace Mine
noncomputable section
noncomputable def bodyOf (st : Stmt) : List Stmt := match st with
  | .FunctionDef _ _ body .. => body
  | _ => []
noncomputable def wBody (st : Stmt) : List Stmt := match st with
  | .While _ b _ _ => b
  | _ => []
noncomputable def wTest (st : Stmt) : Expr := match st with
  | .While t _ _ _ => t
  | _ => default
noncomputable def wPos (st : Stmt) : Pos := match st with
  | .While _ _ _ p => p
  | _ => default
noncomputable def noSp : Specs := fun _ _ _ => .bad
noncomputable def noCp : Expr → St → Option (D × St) := fun _ _ => none
noncomputable def cfg (sp : Specs) (st : Stmt) : Cfg := ⟨sp, noCp, match st with
  | .FunctionDef _ _ _ _ _ _ scope .. => scope.names
  | _ => []⟩
noncomputable def sd : Nat → List Int → Nat → Int → List Int
  | 0, xs, p, x => xs.set p x
  | n + 1, xs, p, x => if p = 0 then xs.set p x else if x < xs.getD ((p - 1) / 2) 0 then sd n (xs.set p (xs.getD ((p - 1) / 2) 0)) ((p - 1) / 2) x else xs.set p x
theorem sd_succ (n : Nat) (xs : List Int) (p : Nat) (x : Int) : sd (n + 1) xs p x = if p = 0 then xs.set p x else if x < xs.getD ((p - 1) / 2) 0 then sd n (xs.set p (xs.getD ((p - 1) / 2) 0)) ((p - 1) / 2) x else xs.set p x := rfl
noncomputable def sdSt (xs : List Int) (p x : Int) : St := ⟨[(S "heap", .obj 0), (S "startpos", .int 0), (S "pos", .int p), (S "newitem", .int x)], [], [.ints xs]⟩
theorem ok_eq {α : Type} {x : Fx} {t t' : T α} {P : α → St → Prop} (e : t = t') (h : ok x t' P) : ok x t P := e ▸ h
theorem sd_ok (w : World) (n : Nat) (xs : List Int) (j : Int) (h1 : 0 ≤ j) (h2 : j < xs.length) (h3 : xs.length ≤ sizeLine) : CallOk w n 761 [.obj 0, .int 0, .int j] [.ints xs] fun d o => d = .none ∧ o = [.ints (sd j.toNat xs j.toNat (xs.getD j.toNat 0))] := by
  refine enter (oc := .type "function") (fd := fd (topSt 25) "_siftdown" .none (.str (S "cpy313.heapq") 1142) (.ref 760)) (body := (bodyOf (topSt 25)).take 1 ++ ([(bodyOf (topSt 25)).getD 1 default] ++ (bodyOf (topSt 25)).drop 2)) (names := [S "heap", S "startpos", S "pos"]) (by kernel_rfl!) (by kernel_rfl!) (by kernel_rfl!) (by kernel_rfl!) (by kernel_rfl!) (fun s vals h => match vals, h with | [a, b, c], _ => .of_eq (by kernel_rfl!)) fun x hx => ?_
  have hN : x.env.scope.names = (cfg noSp (topSt 25)).N := by rw [hx.sc]; kernel_rfl!
  refine ExOk.app (ExOk.tree hx.ok hN (n := 20) (ok_eq (t' := .need (0 ≤ j ∧ j < ↑xs.length ∧ xs.length ≤ sizeLine) (.ret .next (sdSt xs j (xs.getD j.toNat 0)))) (by kernel_rfl!) ⟨⟨h1, h2, h3⟩, ?_⟩))
  refine ExOk.app ?_
  refine ExOk.while (c := cfg noSp (topSt 25)) (test := wTest ((bodyOf (topSt 25)).getD 1 default)) (body := wBody ((bodyOf (topSt 25)).getD 1 default)) (pos := wPos ((bodyOf (topSt 25)).getD 1 default)) hx.ok hN hx.a0 (fun n σ => ∃ ys p z, σ = sdSt ys p z ∧ p.toNat = n ∧ 0 ≤ p ∧ p < ys.length ∧ ys.length ≤ sizeLine ∧ ∃ f, p.toNat ≤ f ∧ sd f ys p.toNat z = sd j.toNat xs j.toNat (xs.getD j.toNat 0)) ?_ (n := j.toNat) ?_
  · rintro n σ ⟨ys, p, z, rfl, rfl, p1, p2, p3, f, hf, e⟩
    refine ok_eq (t' := .ret (.dyn (decide (0 < p))) (sdSt ys p z)) (by kernel_rfl!) ?_
    show if decide (0 < p) = true then _ else _
    split
    · rename_i hp
      have hp : 0 < p := of_decide_eq_true hp
      have q : (p - 1).fdiv (2 ^ Int.toNat 1) = (((p.toNat - 1) / 2 : Nat) : Int) := by
        obtain ⟨k, rfl⟩ := Int.eq_ofNat_of_zero_le p1
        rw [Int.fdiv_eq_ediv_of_nonneg _ (by decide)]
        simp; omega
      refine ExOk.tree hx.ok hN (n := 20) (ok_eq (t' := .need (0 ≤ (1 : Int)) (
 .need (0 ≤ (p - 1).fdiv (2 ^ Int.toNat 1) ∧ (p - 1).fdiv (2 ^ Int.toNat 1) < ↑ys.length ∧ ys.length ≤ sizeLine) (
  .br (decide (z < ys.getD ((p - 1).fdiv (2 ^ Int.toNat 1)).toNat 0))
   (
    .need (0 ≤ p ∧ p < ↑ys.length ∧ ys.length ≤ sizeLine) (
     .ret .cont ⟨[((S "heap"), (.obj 0)), ((S "startpos"), (.int (0))), ((S "pos"), (.int ((p - 1).fdiv (2 ^ Int.toNat 1)))), ((S "newitem"), (.int (z))), ((S "parentpos"), (.int ((p - 1).fdiv (2 ^ Int.toNat 1)))), ((S "parent"), (.int (ys.getD ((p - 1).fdiv (2 ^ Int.toNat 1)).toNat 0)))], [], [(.ints (ys.set p.toNat (ys.getD ((p - 1).fdiv (2 ^ Int.toNat 1)).toNat 0)))]⟩))
   (
    .ret .brk ⟨[((S "heap"), (.obj 0)), ((S "startpos"), (.int (0))), ((S "pos"), (.int (p))), ((S "newitem"), (.int (z))), ((S "parentpos"), (.int ((p - 1).fdiv (2 ^ Int.toNat 1)))), ((S "parent"), (.int (ys.getD ((p - 1).fdiv (2 ^ Int.toNat 1)).toNat 0)))], [], [(.ints (ys))]⟩)))) (by kernel_rfl!) ?_)
      rw [q]
      refine ⟨by omega, ⟨by omega, by omega, p3⟩, fun hz => ⟨⟨p1, p2, p3⟩, (p.toNat - 1) / 2, by omega, [0], 4, by rfl, _, _, _, rfl, ?_, ?_, ?_, ?_, ?_⟩, fun hz => ?_⟩
      · exact Int.toNat_natCast _
      · exact Int.natCast_nonneg _
      · rw [List.length_set]; omega
      · rw [List.length_set]; exact p3
      · obtain ⟨f, rfl⟩ : ∃ k, f = k + 1 := ⟨f - 1, by omega⟩
        refine ⟨f, by simp only [Int.toNat_natCast]; omega, ?_⟩
        have hz := of_decide_eq_true hz
        simp only [Int.toNat_natCast] at hz ⊢
        rw [← e, sd_succ, if_neg (by omega), if_pos hz]
      · refine ExOk.tree hx.ok hN (n := 20) (ok_eq (t' := .need (0 ≤ p ∧ p < ↑ys.length ∧ ys.length ≤ sizeLine) (.ret .next ⟨[((S "heap"), (.obj 0)), ((S "startpos"), (.int (0))), ((S "pos"), (.int (p))), ((S "newitem"), (.int (z))), ((S "parentpos"), (.int (((p.toNat - 1) / 2 : Nat) : Int))), ((S "parent"), (.int (ys.getD (((p.toNat - 1) / 2 : Nat) : Int).toNat 0)))], [], [(.ints (ys.set p.toNat z))]⟩)) (by kernel_rfl!) ?_)
        refine ⟨⟨p1, p2, p3⟩, [0], by rfl, by rfl, rfl, ?_⟩
        show [AO.ints (ys.set p.toNat z)] = _
        obtain ⟨f, rfl⟩ : ∃ k, f = k + 1 := ⟨f - 1, by omega⟩
        have hz := of_decide_eq_false hz
        simp only [Int.toNat_natCast] at hz
        rw [← e, sd_succ, if_neg (by omega), if_neg hz]
    · refine ExOk.tree hx.ok hN (n := 20) (ok_eq (t' := .need (0 ≤ p ∧ p < ↑ys.length ∧ ys.length ≤ sizeLine) (.ret .next (sdSt (ys.set p.toNat z) p z))) (by kernel_rfl!) ?_)
      refine ⟨⟨p1, p2, p3⟩, [0], by rfl, by rfl, rfl, ?_⟩
      show [AO.ints (ys.set p.toNat z)] = _
      rename_i hp
      have hp : ¬ 0 < p := fun q => hp (decide_eq_true q)
      have e0 : p.toNat = 0 := by omega
      rw [← e, e0]
      cases f with
      | zero => rfl
      | succ f => unfold sd; rw [if_pos rfl]
  · exact ⟨[0], 4, by rfl, _, _, _, rfl, rfl, h1, h2, h3, _, Nat.le_refl _, rfl⟩
end
end Mine
namespace Mine
noncomputable section
noncomputable def itemOf (k : ItK) (objs : List AO) (i : Nat) : Option D := match k with
  | .str u => u[i]?.map fun c => .str [c]
  | .list j => (match objs[j]? with
    | some (.ints xs) => xs[i]?.map D.int
    | some (.strs xs) => xs[i]?.map D.str
    | _ => none)
  | .range a n => if i < n then some (.int (a + (i : Nat))) else none
noncomputable def srcOk (k : ItK) (objs : List AO) : Bool := match k with
  | .list j => (match objs[j]? with
    | some (.ints _) => true
    | some (.strs _) => true
    | _ => false)
  | _ => true
noncomputable def iterM (d : D) (σ : St) : T D := match d with
  | .str u => .ret (.obj σ.objs.length) (pushO σ (.it (.str u) 0))
  | .obj j => (match σ.objs[j]? with
    | some (.ints _) => .ret (.obj σ.objs.length) (pushO σ (.it (.list j) 0))
    | some (.strs _) => .ret (.obj σ.objs.length) (pushO σ (.it (.list j) 0))
    | some (.rng a b) => .need (Builtin.Range.small a b 1 = true) (.ret (.obj σ.objs.length) (pushO σ (.it (.range a (b - a).toNat) 0)))
    | _ => .bad)
  | _ => .bad
theorem at_pre {as bs : List Addr} {j : Nat} {a : Addr} (h : as[j]? = some a) (k : as <+: bs) : bs[j]? = some a := by
  obtain ⟨t, rfl⟩ := k
  rw [List.getElem?_append_left (List.getElem?_eq_some_iff.mp h).1]; exact h
theorem iterM_sound {x : Fx} {v : Value} {d : D} {σ : St} {news : List (Addr × Obj)} (rv : Rel (ads news) v d) : Snd x Rel (pyIter v) (iterM d σ) σ news := by
  intro P hok s Q E m S post
  have fr : ∀ {σ : St}, Sim x σ s m news → s.heap.objs.size ∉ ads news := fun S => fresh_of (x := x) (σ := σ) (s := s) (m := m) fun q hq => Heap.lt_size (S.N q hq).1
  unfold iterM at hok
  split at hok
  · obtain ⟨t, rfl⟩ := rv
    refine wpAny_pyIter_strU ?_
    exact post.push0 hok S (fr S) (S.F.push _) (News.push S.F S.N _) ⟨rfl, _, rfl⟩ ⟨_, new_at S _ _, rfl⟩
  · obtain ⟨c, e, rfl⟩ := rv
    split at hok
    · rename_i xs ho
      obtain ⟨c', o, f1, f2, r, hm⟩ := S.at ho
      rw [e] at f2; cases f2
      obtain ⟨vs, n, rfl, hi⟩ := r
      refine wpAny_pyIter_list (isList_of (S.N _ hm).1) ?_
      exact post.push0 hok S (fr S) (S.F.push _) (News.push S.F S.N _) ⟨_, at_pre e (pre_append _ _), rfl, rfl⟩ ⟨_, new_at S _ _, rfl⟩
    · rename_i xs ho
      obtain ⟨c', o, f1, f2, r, hm⟩ := S.at ho
      rw [e] at f2; cases f2
      obtain ⟨vs, n, rfl, hi⟩ := r
      refine wpAny_pyIter_list (isList_of (S.N _ hm).1) ?_
      exact post.push0 hok S (fr S) (S.F.push _) (News.push S.F S.N _) ⟨_, at_pre e (pre_append _ _), rfl, rfl⟩ ⟨_, new_at S _ _, rfl⟩
    · rename_i a b ho
      obtain ⟨h1, hp⟩ := hok
      obtain ⟨c', o, f1, f2, r, hm⟩ := S.at ho
      rw [e] at f2; cases f2
      obtain ⟨t, u, v, rfl⟩ := r
      refine wpAny_pyIter_range (S.N _ hm).1 h1 ?_
      rw [rangeSize_nat]
      refine post.push0 hp S (fr S) (S.F.push _) (News.push S.F S.N _) ?_ ⟨_, new_at S _ _, rfl⟩
      show _ = _
      simp
    · exact hok.elim
  · exact hok.elim
section
variable {x : Fx} {σ : St} {s : Shared} {m : Str → Option Value} {news : List (Addr × Obj)}
theorem Sim.but {I : Addr} {h' : Heap} {tk : Nat} (S : Sim x σ s m news) (hI : I ∉ ads news) (hL : x.env.locals ≠ I) (h0 : x.h₀.get? I = none) (hk : ∀ b o, b ∉ [I] → s.heap.get? b = some o → h'.get? b = some o) : Sim x σ { s with heap := h', toks := tk } m news :=
  S.heap (LCg.fr_but S.F hk hL h0) (LCg.news_but S.N hk fun p hp e => hI (e ▸ List.mem_map_of_mem hp)) tk
theorem at_set {I : Addr} {q : Nat} {o' : Obj} {h' : Heap} {ao' : AO} {tk : Nat} (S : Sim x σ s m news) {o : Obj} (f : news[q]? = some (I, o)) (hs : Heap.SameBut I s.heap h') (g : h'.get? I = some o') (r : OM (ads news) o' ao') :
    Sim x (setO σ q ao') { s with heap := h', toks := tk } m (news.set q (I, o')) := by
  have w := S.N _ (List.mem_of_getElem? f)
  have F' : Fr x.h₀ x.env.locals h' m := S.F.change hs w.2.1 w.2.2
  obtain ⟨pre, post', e3, e4, n1, n2⟩ := (upd_set (o' := o') S.nd f).split
  have N' : News x.h₀ x.env.locals h' (news.set q (I, o')) := by
    rw [e4]
    have N0 := S.N
    rw [e3] at N0
    exact news_set N0 n1 n2 hs g
  exact S.set f F' N' r tk
theorem strs_item {xs : List (List Nat)} {vs : List Value} (h : All2 (fun v (x : List Nat) => ∃ t, v = Value.str ⟨x.toArray⟩ t) vs xs) (i : Nat) : (∀ y, xs[i]? = some y → ∃ t, vs[i]? = some (.str ⟨y.toArray⟩ t)) ∧ (xs[i]? = none → vs[i]? = none) := by
  refine ⟨fun y hy => ?_, fun hn => ?_⟩
  · obtain ⟨v, e, t, rfl⟩ := h.get hy; exact ⟨t, e⟩
  · have := h.length
    rw [List.getElem?_eq_none_iff] at hn ⊢; omega
theorem ints_item {xs : List Int} {vs : List Value} (h : IntsAre vs xs) (i : Nat) : (∀ y, xs[i]? = some y → ∃ t, vs[i]? = some (.int y t)) ∧ (xs[i]? = none → vs[i]? = none) := by
  refine ⟨fun y hy => h.get i y hy, fun hn => ?_⟩
  have := h.length
  rw [List.getElem?_eq_none_iff] at hn ⊢; omega
theorem next_sound (hx : x.Ok) {q i : Nat} {k : ItK} {I : Addr} {Q : Option Value → Shared → Prop} {E : Value → Shared → Prop} (S : Sim x σ s m news) (hq : σ.objs[q]? = some (.it k i)) (hI : (ads news)[q]? = some I) (hs : srcOk k σ.objs = true)
    (h1 : ∀ d, itemOf k σ.objs i = some d → ∀ v s' news', Sim x (setO σ q (.it k (i + 1))) s' m news' → ads news' = ads news → Rel (ads news') v d → Q (some v) s')
    (h2 : itemOf k σ.objs i = none → ∀ h' tk, (∀ b o, b ∉ [I] → s.heap.get? b = some o → h'.get? b = some o) → Q none { s with heap := h', toks := tk }) :
    wpAny (model pw x.w) x.A (pyNext (.ref I)) Q E s := by
  obtain ⟨I', o, f1, f2, r, hm⟩ := S.at hq
  rw [hI] at f2; cases f2
  have hh := hx.room.handled
  have ho := (S.N _ hm).1
  have off : ∀ {h' : Heap}, Heap.ExtBut I s.heap h' → ∀ b o, b ∉ [I] → s.heap.get? b = some o → h'.get? b = some o := fun he b o hb e => he b o (fun q => hb (by rw [q]; exact .head _)) e
  cases k with
  | str u =>
    obtain ⟨r1, t, r2⟩ := r
    have e : itemOf (.str u) σ.objs i = u[i]?.map fun c => D.str [c] := rfl
    unfold strIterType at r1
    cases ha : (⟨u.toArray⟩ : Str).cps.all (· < 128) with
    | true =>
      rw [ha, if_pos rfl] at r1
      have hit : s.heap.IsStrIter I "str_ascii_iterator" ⟨u.toArray⟩ t i := ⟨o, ho, r1, r2⟩
      cases hu : u[i]? with
      | none => exact wpAny_pyNext_ascii_end hh hit (by simpa using hu) fun h' he => h2 (by rw [e, hu]; rfl) h' s.toks (off he)
      | some c =>
        refine wpAny_pyNext_ascii_item hit (c := c) (by simpa using hu) fun h' hit' hs' => ?_
        obtain ⟨o', g1, g2, g3⟩ := hit'
        refine h1 (.str [c]) (by rw [e, hu]; rfl) _ _ _ (at_set (ao' := .it (.str u) (i + 1)) S f1 hs' g1 ⟨?_, t, g3⟩) (ads_set f1) ⟨_, rfl⟩
        unfold strIterType; rw [ha, if_pos rfl]; exact g2
    | false =>
      rw [ha, if_neg Bool.false_ne_true] at r1
      have hit : s.heap.IsStrIter I "str_iterator" ⟨u.toArray⟩ t i := ⟨o, ho, r1, r2⟩
      cases hu : u[i]? with
      | none => exact wpAny_pyNext_wide_end hh hit (by simpa using hu) fun h' he => h2 (by rw [e, hu]; rfl) h' s.toks (off he)
      | some c =>
        refine wpAny_pyNext_wide_item hit (c := c) (by simpa using hu) fun h' hit' hs' => ?_
        obtain ⟨o', g1, g2, g3⟩ := hit'
        refine h1 (.str [c]) (by rw [e, hu]; rfl) _ _ _ (at_set (ao' := .it (.str u) (i + 1)) S f1 hs' g1 ⟨?_, t, g3⟩) (ads_set f1) ⟨_, rfl⟩
        unfold strIterType; rw [ha, if_neg Bool.false_ne_true]; exact g2
  | range a n =>
    have hit : IsRangeIter s.heap I (a + (i : Nat)) ((n : Int) - (i : Nat)) 1 := by
      have r : o = _ := r
      rw [r] at ho; exact ho
    have e : itemOf (.range a n) σ.objs i = if i < n then some (.int (a + (i : Nat))) else none := rfl
    by_cases hi : i < n
    · refine wpAny_pyNext_range_item hit (by omega) fun h' hit' hs' => ?_
      refine h1 _ (e.trans (if_pos hi)) _ _ _ (at_set (ao' := .it (.range a n) (i + 1)) S f1 hs' hit' ?_) (ads_set f1) ⟨_, rfl⟩
      show _ = _
      simp only [Int.natCast_add, Int.natCast_one, Int.add_assoc, Int.sub_sub, Int.cast_ofNat_Int]
    · exact wpAny_pyNext_range_end hh hit (by omega) fun h' he => h2 (e.trans (if_neg hi)) h' s.toks (off he)
  | list j =>
    obtain ⟨a, ea, r1, r2⟩ := r
    have hit : s.heap.IsListIter I a i := ⟨o, ho, r1, r2⟩
    have hs : (match σ.objs[j]? with | some (.ints _) => true | some (.strs _) => true | _ => false) = true := hs
    split at hs
    · rename_i xs hj
      obtain ⟨a', oa, g1, g2, rj, hmj⟩ := S.at hj
      rw [ea] at g2; cases g2
      obtain ⟨vs, n, rfl, hi⟩ := rj
      have hl := isList_of (S.N _ hmj).1
      obtain ⟨i1, i2⟩ := ints_item hi i
      have e : itemOf (.list j) σ.objs i = xs[i]?.map D.int := by unfold itemOf; dsimp only; rw [hj]
      cases hu : xs[i]? with
      | none => exact wpAny_pyNext_list_end hh hit hl (by simpa using i2 hu) fun h' he => h2 (by rw [e, hu]; rfl) h' s.toks (off he)
      | some y =>
        obtain ⟨t, ev⟩ := i1 y hu
        refine wpAny_pyNext_list_item hit hl (x := .int y t) (by simpa using ev) fun h' hit' hs' => ?_
        obtain ⟨o', k1, k2, k3⟩ := hit'
        have := at_set (tk := s.toks) (ao' := .it (.list j) (i + 1)) S f1 hs' k1 ⟨a, ea, k2, k3⟩
        exact h1 (.int y) (by rw [e, hu]; rfl) _ _ _ this (ads_set f1) ⟨_, rfl⟩
    · rename_i xs hj
      obtain ⟨a', oa, g1, g2, rj, hmj⟩ := S.at hj
      rw [ea] at g2; cases g2
      obtain ⟨vs, n, rfl, hi⟩ := rj
      have hl := isList_of (S.N _ hmj).1
      obtain ⟨i1, i2⟩ := strs_item hi i
      have e : itemOf (.list j) σ.objs i = xs[i]?.map D.str := by unfold itemOf; dsimp only; rw [hj]
      cases hu : xs[i]? with
      | none => exact wpAny_pyNext_list_end hh hit hl (by simpa using i2 hu) fun h' he => h2 (by rw [e, hu]; rfl) h' s.toks (off he)
      | some y =>
        obtain ⟨t, ev⟩ := i1 y hu
        refine wpAny_pyNext_list_item hit hl (x := .str ⟨y.toArray⟩ t) (by simpa using ev) fun h' hit' hs' => ?_
        obtain ⟨o', k1, k2, k3⟩ := hit'
        have := at_set (tk := s.toks) (ao' := .it (.list j) (i + 1)) S f1 hs' k1 ⟨a, ea, k2, k3⟩
        exact h1 (.str y) (by rw [e, hu]; rfl) _ _ _ this (ads_set f1) ⟨_, rfl⟩
    · cases hs
end
section
noncomputable def fTurn (k : Nat) (I : St → Prop) (P : Fl → St → Prop) (f : Fl) (σ : St) : Prop := match f with
  | .next => Cut k σ I
  | .cont => Cut k σ I
  | .brk => P .next σ
  | .ret d => P (.ret d) σ
structure Again (x x' : Fx) (k : Nat) : Prop where
  ok : x'.Ok
  env : x'.env = x.env
  w : x'.w = x.w
  n : x'.n = x.n
  a0 : x'.a0.length = k
  A : x'.A = x.A
  pre : x.a0 <+: x'.a0
theorem not_in_sub {x : Fx} {σ : St} {s : Shared} {m : Str → Option Value} {news : List (Addr × Obj)} {q : Nat} {I : Addr} {ids : List Nat} (S : Sim x σ s m news) (hl : ∀ i ∈ ids, i < σ.objs.length) (hI : (ads news)[q]? = some I) (hq : memN ids q = false) : I ∉ ads (subN news ids) := by
  intro h
  obtain ⟨p, hp, e⟩ := List.mem_map.mp h
  obtain ⟨j, hj, rfl⟩ := List.mem_map.mp hp
  obtain ⟨a, o, e1, e2, e3⟩ := sub_at S hl hj
  rw [e3] at e
  have e : a = I := e
  subst e
  have := nodup_get S.nd e2 hI
  subst this
  rw [memN_iff.mpr hj] at hq; cases hq
theorem cutOk_lt {k n : Nat} {ids : List Nat} {σ : St} (h : cutOk k ids n σ = true) : ∀ i ∈ ids, i < σ.objs.length := by
  unfold cutOk at h
  obtain ⟨h, h6⟩ := Bool.and_eq_true_iff.mp h
  obtain ⟨h5, hc⟩ := Bool.and_eq_true_iff.mp h
  obtain ⟨hc, h4⟩ := Bool.and_eq_true_iff.mp hc
  obtain ⟨hc, h3⟩ := Bool.and_eq_true_iff.mp hc
  obtain ⟨h1, h2⟩ := Bool.and_eq_true_iff.mp hc
  exact fun i hi => Nat.le_of_ble_eq_true (allN_iff h2 i hi)
theorem Sim.again {x : Fx} {σ : St} {s : Shared} {m : Str → Option Value} {news : List (Addr × Obj)} (S : Sim x σ s m news) (a : List Addr) : Sim { x with a0 := a } σ s m news := ⟨S.F, S.N, S.nd, S.loc, S.cel, S.obj, S.gens, S.os⟩
theorem Sim.back {x : Fx} {σ : St} {s : Shared} {m : Str → Option Value} {news : List (Addr × Obj)} {a : List Addr} (S : Sim { x with a0 := a } σ s m news) : Sim x σ s m news := ⟨S.F, S.N, S.nd, S.loc, S.cel, S.obj, S.gens, S.os⟩
theorem ExOk.for {x : Fx} {c : Cfg} (hx : x.Ok) (hN : x.env.scope.names = c.N) {k : Nat} (hk : x.a0.length = k) {y : Str} {py pos' : Pos} {iter : Expr} {body : List Stmt} {σ : St} {P : Fl → St → Prop} (k1 q N : Nat) (K : ItK) (I : Nat → St → Prop)
    (hs : ∀ v, foldedSetIterable iter x.env v = pure v)
    (start : ok x ((evalM c 40 iter σ).bind iterM) fun d σ1 => ∃ ids n r, d = .obj r ∧ cutOk k ids n σ1 = true ∧ memN ids r = true ∧ pos ids r = q ∧ ids.length = k1 ∧ I 0 (cutSt ids n σ1))
    (bound : ∀ i σ, I i σ → i ≤ N)
    (turn : ∀ x' : Fx, Again x x' k1 → ∀ i σ, I i σ → σ.objs[q]? = some (.it K i) ∧ srcOk K σ.objs = true ∧
      (∀ d, itemOf K σ.objs i = some d → ok x' (storeM c.N y d (setO σ q (.it K (i + 1)))) fun _ σ' => ExOk x' body σ' (fTurn k1 (I (i + 1)) P)) ∧
      (itemOf K σ.objs i = none → ∃ ids n, cutOk k ids n σ = true ∧ memN ids q = false ∧ P .next (cutSt ids n σ))) : ExOk x [.For (.Name y py) iter body [] pos'] σ P := by
  intro s Q E m news S a0 post
  refine wpAny_execs_cons ?_
  refine wpAny_For ?_ hs
  refine (good hx hN 40).ev _ _ _ _ (ok_bind start) s _ E m S fun v s1 m1 n1 d σ1 p S1 pre1 r1 => ?_
  refine iterM_sound r1 _ p s1 _ E m1 S1 fun it s2 m2 n2 d2 σ2 p2 S2 pre2 r2 => ?_
  obtain ⟨ids, n, r, rfl, hc, hr, hq, hl, hI⟩ := p2
  obtain ⟨Ia, ea, rfl⟩ := r2
  have S3 := S2.cut hx hc
  have q1 : (ads (subN n2 ids))[q]? = some Ia := by rw [← hq]; exact ads_sub S2 (cutOk_lt hc) (memN_iff.mp hr) ea
  have a1 : x.a0 <+: ads (subN n2 ids) := prefN_ads (cutOk_pref hc) hk ((a0.trans pre1).trans pre2)
  let x' : Fx := { x with a0 := ads (subN n2 ids) }
  have ag : Again x x' k1 := ⟨⟨hx.base, hx.kind, hx.glo, hx.blt, hx.room⟩, rfl, rfl, rfl, by show (ads (subN n2 ids)).length = k1; simp [ads, subN, hl], rfl, a1⟩
  refine codeAny_forLoop (fun nn s => ∃ i σ m news', nn = N + 1 - i ∧ I i σ ∧ Sim x σ s m news' ∧ ads (subN n2 ids) <+: ads news') (fun nn s3 hI => ?_) (N + 1) ⟨0, _, _, _, rfl, hI, S3, pre_refl _⟩
  obtain ⟨i, σ3, m3, n3, rfl, hI, S3, pre3⟩ := hI
  obtain ⟨t1, t2, t3, t4⟩ := turn x' ag i σ3 hI
  have q3 : (ads n3)[q]? = some Ia := at_pre q1 pre3
  refine next_sound hx S3 t1 q3 t2 (fun d hd v s4 n4 S4 e4 r4 => ?_) (fun hn h' tk hk' => ?_)
  · refine assign_Name ?_
    refine storeM_sound (x := x') ag.ok hN r4 _ (t3 d hd) s4 _ _ m3 (S4.again _) fun u s5 m5 n5 u' σ5 p5 S5 pre5 _ => ?_
    have pre5' : ads (subN n2 ids) <+: ads n5 := by rw [e4] at pre5; exact pre3.trans pre5
    refine p5 s5 _ _ m5 n5 S5 pre5' fun f s6 m6 n6 f' σ6 p6 S6 pre6 r6 => ?_
    have go : Cut k1 σ6 (I (i + 1)) → ∃ m, m < N + 1 - i ∧ ∃ i σ m_1 news', m = N + 1 - i ∧ I i σ ∧ Sim x σ s6 m_1 news' ∧ ads (subN n2 ids) <+: ads news' := fun ⟨ids', n', c1, c2⟩ => by
      have b1 := bound _ _ c2
      exact ⟨N + 1 - (i + 1), by omega, i + 1, _, m6, _, rfl, c2, S6.back.cut hx c1, prefN_ads (cutOk_pref c1) ag.a0 pre6⟩
    cases f' with
    | next => cases f <;> first | exact go p6 | exact r6.elim
    | cont => cases f <;> first | exact go p6 | exact r6.elim
    | brk => cases f <;> first | exact wpAny_execs_nil (post _ _ m6 n6 .next _ p6 S6.back (a1.trans pre6) trivial) | exact r6.elim
    | ret d => cases f <;> first | exact post _ _ m6 n6 _ _ p6 S6.back (a1.trans pre6) r6 | exact r6.elim
  · obtain ⟨ids', n', c1, c2, c3⟩ := t4 hn
    have w := S3.at t1
    obtain ⟨Ia', o, g1, g2, _, hm⟩ := w
    rw [q3] at g2; cases g2
    have w := S3.N _ hm
    have S' := (S3.cut hx c1).but (not_in_sub S3 (cutOk_lt c1) q3 c2) (Ne.symm w.2.1) w.2.2 hk' (tk := tk)
    exact wpAny_execs_nil (wpAny_execs_nil (post _ _ m3 _ .next _ c3 S' (prefN_ads (cutOk_pref c1) hk (a1.trans pre3)) trivial))
end
end
end Mine
namespace Mine
noncomputable section
noncomputable def clOf (cells : List (Str × Addr)) : List (Str × NameKind) → List (Str × Addr) → List (Str × Addr)
  | [], cs => cs
  | p :: r, cs => if (p.2 == .free) = true then clOf cells r ((p.1, (cells.lookup p.1).getD 0) :: cs) else clOf cells r cs
theorem closure_eq {env : Env} : ∀ (names : List (Str × NameKind)) (cs : List (Str × Addr)), (∀ p ∈ names, p.2 = .free → ∃ a, env.cells.lookup p.1 = some a) →
    (forIn names cs fun (x : Str × NameKind) (cs : List (Str × Addr)) => (match x with | (name, kind) => if (kind == NameKind.free) = true then (do let a ← cellOf env name; pure (ForInStep.yield ((name, a) :: cs))) else pure (ForInStep.yield cs) : Sem (ForInStep (List (Str × Addr))))) = pure (clOf env.cells names cs)
  | [], cs, _ => rfl
  | (y, k) :: r, cs, h => by
    rw [List.forIn_cons]
    unfold clOf
    dsimp only
    cases hk : (k == NameKind.free) with
    | true =>
      have hk' : k = .free := by simpa using hk
      obtain ⟨a, ea⟩ := h (y, k) (.head _) hk'
      have e : cellOf env y = pure a := by unfold cellOf; rw [show env.cells.lookup y = some a from ea]
      rw [if_pos rfl, if_pos rfl, e, pure_bind, pure_bind, show env.cells.lookup y = some a from ea]
      exact closure_eq r _ fun p hp => h p (.tail _ hp)
    | false =>
      rw [if_neg Bool.false_ne_true, if_neg Bool.false_ne_true, pure_bind]
      exact closure_eq r _ fun p hp => h p (.tail _ hp)
theorem closureFor_cl {scope : Scope} {env : Env} (h : ∀ p ∈ scope.names, p.2 = .free → ∃ a, env.cells.lookup p.1 = some a) : closureFor scope env = pure (clOf env.cells scope.names []) := by
  have e := closure_eq scope.names [] h
  unfold closureFor
  rw [bind_pure]
  refine Eq.trans ?_ e
  congr 1
theorem clOf_sound {cells : List (Str × Addr)} {y : Str} {a : Addr} (hy : cells.lookup y = some a) : ∀ (names : List (Str × NameKind)) (cs : List (Str × Addr)), (cs.lookup y = some a ∨ cs.lookup y = none) →
    (clOf cells names cs).lookup y = some a ∨ ((clOf cells names cs).lookup y = none ∧ cs.lookup y = none ∧ ∀ p ∈ names, p.2 = .free → p.1 ≠ y)
  | [], cs, h => h.elim .inl fun h => .inr ⟨h, h, fun _ hp => by cases hp⟩
  | (z, k) :: r, cs, h => by
    unfold clOf
    dsimp only
    cases hk : (k == NameKind.free) with
    | true =>
      rw [if_pos rfl]
      have up : ((z, (cells.lookup z).getD 0) :: cs).lookup y = some a ∨ ((z, (cells.lookup z).getD 0) :: cs).lookup y = none := by
        rw [List.lookup_cons]
        cases e : y == z with
        | true => have e := beq_iff_eq.mp e; subst e; rw [hy]; exact .inl rfl
        | false => exact h
      rcases clOf_sound hy r _ up with q | ⟨q1, q2, q3⟩
      · exact .inl q
      · rw [List.lookup_cons] at q2
        cases e : y == z with
        | true => rw [e] at q2; cases q2
        | false =>
          rw [e] at q2
          refine .inr ⟨q1, q2, fun p hp hf => ?_⟩
          rcases List.mem_cons.mp hp with rfl | hp
          · exact fun q => (beq_eq_false_iff_ne.mp e) q.symm
          · exact q3 p hp hf
    | false =>
      rw [if_neg Bool.false_ne_true]
      rcases clOf_sound hy r cs h with q | ⟨q1, q2, q3⟩
      · exact .inl q
      · refine .inr ⟨q1, q2, fun p hp hf => ?_⟩
        rcases List.mem_cons.mp hp with rfl | hp
        · have hf : k = .free := hf
          rw [hf] at hk; cases hk
        · exact q3 p hp hf
noncomputable def celN (cel : List (Str × Nat)) : List (Str × NameKind) → List (Str × Nat)
  | [] => []
  | p :: r => match p.2 with
    | .free => (match lk p.1 cel with
      | some i => (p.1, i) :: celN cel r
      | none => celN cel r)
    | _ => celN cel r
noncomputable def celAll (cel : List (Str × Nat)) : List (Str × NameKind) → Bool
  | [] => true
  | p :: r => match p.2 with
    | .free => (match lk p.1 cel with
      | some i => celAll cel r
      | none => false)
    | _ => celAll cel r
theorem celN_mem {cel : List (Str × Nat)} {y : Str} {i : Nat} : ∀ {names : List (Str × NameKind)}, lk y (celN cel names) = some i → lk y cel = some i ∧ (y, NameKind.free) ∈ names
  | [], h => by cases h
  | (z, k) :: r, h => by
    have tl : lk y (celN cel r) = some i → lk y cel = some i ∧ (y, NameKind.free) ∈ (z, k) :: r := fun h => ⟨(celN_mem h).1, .tail _ (celN_mem h).2⟩
    unfold celN at h
    cases k with
    | free =>
      dsimp only at h
      cases hz : lk z cel with
      | none => rw [hz] at h; exact tl h
      | some j =>
        rw [hz] at h
        dsimp only at h
        unfold lk at h
        cases q : Fast.sEq z y with
        | true =>
          dsimp only at h
          rw [q] at h
          have := Fast.sEq_iff.mp q
          subst this
          cases h
          exact ⟨hz, .head _⟩
        | false =>
          dsimp only at h
          rw [q] at h; exact tl h
    | _ => exact tl h
theorem celAll_mem {cel : List (Str × Nat)} : ∀ {names : List (Str × NameKind)}, celAll cel names = true → ∀ p ∈ names, p.2 = .free → ∃ i, lk p.1 cel = some i
  | [], _, _, h, _ => by cases h
  | (z, k) :: r, h, p, hp, hf => by
    unfold celAll at h
    rcases List.mem_cons.mp hp with rfl | hp'
    · have hf : k = .free := hf
      subst hf
      dsimp only at h
      cases hz : lk z cel with
      | none => rw [hz] at h; cases h
      | some j => exact ⟨j, rfl⟩
    · cases k with
      | free =>
        dsimp only at h
        cases hz : lk z cel with
        | none => rw [hz] at h; cases h
        | some j => rw [hz] at h; exact celAll_mem h p hp' hf
      | _ => exact celAll_mem h p hp' hf
noncomputable def relabN (N names : List (Str × NameKind)) : List (Str × NameKind) := names.map fun p => match p.2 == .free && N.lookup p.1 == some .cell with
  | true => (p.1, .cell)
  | false => p
theorem relab_eq {x : Fx} (hx : x.Ok) {N : List (Str × NameKind)} (hN : x.env.scope.names = N) (scope : Scope) : (relabel scope x.env).names = relabN N scope.names := by
  unfold relabel relabN
  dsimp only
  refine List.map_congr_left fun p _ => ?_
  obtain ⟨y, k⟩ := p
  have e : (x.env.scope.kind == .function) = true := by rw [hx.kind]; rfl
  have e2 : x.env.kindOf y = N.lookup y := by unfold Env.kindOf; rw [hN]
  dsimp only
  rw [e, Bool.and_true, e2]
  cases (k == NameKind.free && List.lookup y N == some NameKind.cell) with
  | true => rw [if_pos rfl]
  | false => rw [if_neg Bool.false_ne_true]
noncomputable def scOk (scope : Scope) (y : Str) : Bool := (scope.kind == .function) && (scope.names.all fun p => match p.2 with | .cell => false | .local => (match lk p.1 scope.names with | some .local => true | _ => false) | _ => true) && (match lk y scope.names with | some .local => true | _ => false)
theorem scOk_of {scope : Scope} {y : Str} (h : scOk scope y = true) : scope.kind = .function ∧ (∀ p ∈ scope.names, p.2 ≠ .cell) ∧ (∀ p ∈ scope.names, p.2 = .local → scope.names.lookup p.1 = some .local) ∧ scope.names.lookup y = some .local := by
  unfold scOk at h
  obtain ⟨h, h3⟩ := Bool.and_eq_true_iff.mp h
  obtain ⟨h1, h2⟩ := Bool.and_eq_true_iff.mp h
  have h2 := List.all_eq_true.mp h2
  refine ⟨beq_iff_eq.mp h1, fun p hp e => ?_, fun p hp e => ?_, ?_⟩
  · have := h2 p hp; rw [e] at this; cases this
  · have := h2 p hp
    rw [e] at this
    dsimp only at this
    split at this
    · rename_i q; exact lk_lookup q
    · cases this
  · split at h3
    · rename_i q; exact lk_lookup q
    · cases h3
theorem lookup_relabN {N : List (Str × NameKind)} {x : Fx} (hx : x.Ok) (hN : x.env.scope.names = N) {scope : Scope} {y : Str} (h : scope.names.lookup y = some .local) : (relabel scope x.env).names.lookup y = some .local := lookup_relabel_local h
/-- an iterator is its own iterator -/
theorem iter_self {x : Fx} {σ : St} {s : Shared} {m : Str → Option Value} {news : List (Addr × Obj)} (S : Sim x σ s m news) {q i : Nat} {k : ItK} {I : Addr} {Q : Value → Shared → Prop} {E : Value → Shared → Prop} (hq : σ.objs[q]? = some (.it k i)) (hI : (ads news)[q]? = some I)
    (h : Q (.ref I) s) : wpAny (model pw x.w) x.A (pyIter (.ref I)) Q E s := by
  obtain ⟨I', o, f1, f2, r, hm⟩ := S.at hq
  rw [hI] at f2; cases f2
  have ho := (S.N _ hm).1
  cases k with
  | str u =>
    obtain ⟨r1, t, r2⟩ := r
    unfold strIterType at r1
    cases ha : (⟨u.toArray⟩ : Str).cps.all (· < 128) with
    | true => rw [ha, if_pos rfl] at r1; exact wpAny_pyIter_striter_ascii ⟨o, ho, r1, r2⟩ h
    | false => rw [ha, if_neg Bool.false_ne_true] at r1; exact wpAny_pyIter_striter_wide ⟨o, ho, r1, r2⟩ h
  | range a n =>
    have r : o = _ := r
    rw [r] at ho
    exact wpAny_pyIter_rangeiter ho h
  | list j =>
    obtain ⟨a, ea, r1, r2⟩ := r
    exact wpAny_pyIter_listiter ⟨o, ho, r1, r2⟩ h
noncomputable def compTurnM (c : Cfg) (ifs : List Expr) (elt : Expr) (acc : Nat) (σ : St) : T Unit := (match ifs with
    | [] => T.ret Kb.yes σ
    | [t] => truthM c 40 t σ
    | _ => .bad).bind fun k σ => brK k ((evalM c 40 elt σ).bind fun d σ => (bltM .append [.obj acc, d] σ).bind fun _ σ => .ret () σ) (.ret () σ)
structure Inner (x x' : Fx) (N : List (Str × NameKind)) (k : Nat) : Prop where
  ok : x'.Ok
  names : x'.env.scope.names = N
  w : x'.w = x.w
  n : x'.n = x.n
  a0 : x'.a0.length = k
noncomputable def locBelow (q : Nat) (σ : St) : Bool := allN ((σ.loc.map (·.2)).flatMap D.refs) (fun i => Nat.blt i q) && allN (σ.cel.map (·.2)) (fun i => Nat.blt i q)
section
variable {x : Fx} {c : Cfg}
theorem Sim.same {σ : St} {s : Shared} {m : Str → Option Value} {news : List (Addr × Obj)} {C : Addr} {h' : Heap} (S : Sim x σ s m news) (hC : C ∉ ads news) (hL : C ≠ x.env.locals) (h0 : x.h₀.get? C = none) (hs : Heap.SameBut C s.heap h') : Sim x σ { s with heap := h' } m news :=
  S.but (tk := s.toks) hC (Ne.symm hL) h0 fun b o hb e => hs.extBut b o (fun q => hb (by rw [q]; exact .head _)) e
theorem comp_core (hx : x.Ok) (hN : x.env.scope.names = c.N) {y : Str} {py pos pos0 : Pos} {elt iter : Expr} {ifs : List Expr} {scope : Scope} {σ : St} {P : D → St → Prop} (c' : Cfg) (q N : Nat) (K : ItK) (J : Nat → St → Prop) {use : Option (Value → Sem Unit)}
    {s : Shared} {m : Str → Option Value} {news : List (Addr × Obj)} {Q : Value → Shared → Prop} {E : Value → Shared → Prop} (S : Sim x σ s m news)
    (hs : ∀ v, foldedSetIterable iter x.env v = pure v) (hsc : scOk scope y = true) (hc' : relabN c.N scope.names = c'.N) (hca : celAll σ.cel scope.names = true)
    (start : ok x (evalM c 40 iter σ) fun d0 σ1 => ok x (iterM d0 σ1) fun d σ2 => d = .obj q ∧ σ1.objs.length = q ∧ σ2.objs.length = q + 1 ∧ locBelow q σ1 = true ∧ σ2.loc = σ1.loc ∧ σ2.cel = σ1.cel ∧
      (∃ i, σ2.objs[q]? = some (.it K i)) ∧ J 0 ⟨[], celN σ1.cel scope.names, σ2.objs ++ [.ints []]⟩ ∧
      ∀ i σ', J i σ' → itemOf K σ'.objs i = none → ∃ ids n, cutOk q ids n σ' = true ∧ memN ids q = false ∧ memN ids (q + 1) = true ∧ P (.obj (Mine.pos ids (q + 1))) ⟨σ1.loc, σ1.cel, subO σ'.objs ids⟩)
    (bound : ∀ i σ, J i σ → i ≤ N)
    (turn : ∀ x' : Fx, Inner x x' c'.N (q + 2) → ∀ i σ, J i σ → σ.objs[q]? = some (.it K i) ∧ srcOk K σ.objs = true ∧
      (∀ d, itemOf K σ.objs i = some d → ok x' ((storeM c'.N y d (setO σ q (.it K (i + 1)))).bind fun _ σ => compTurnM c' ifs elt (q + 1) σ) fun _ σ' => Cut (q + 2) σ' (J (i + 1))))
    (fin : ∀ D C s' m' news' d σf mC, P d σf → Sim x σf s' m' news' → ads news <+: ads news' → Rel (ads news') (.ref D) d → s'.heap.Ns C mC → C ∉ ads news' → C ≠ x.env.locals → x.h₀.get? C = none → compPost (model pw x.w) x.A E use Q (.ref D) C (.ok .next) s') :
    wpAny (model pw x.w) x.A (comprehension (.ListComp elt [⟨.Name y py, iter, ifs, 0⟩] scope pos) scope x.env pos0 (newList []) false (eval iter x.env) use) Q E s := by
  obtain ⟨k1, k2, k3, k4⟩ := scOk_of hsc
  have hfr : ∀ p ∈ scope.names, p.2 = .free → ∃ a, x.env.cells.lookup p.1 = some a := fun p hp hf => by
    obtain ⟨i, hi⟩ := celAll_mem hca p hp hf
    obtain ⟨a, _, ha⟩ := S.cel _ _ hi
    exact ⟨a, ha⟩
  refine wpAny_comprehension_free (use := use) (cl := clOf x.env.cells scope.names []) rfl hs (closureFor_cl hfr) k1 k3 ?_
  refine (good hx hN 40).ev _ _ _ _ start s _ E m S fun v s1 m1 n1 d0 σ1 p S1 pre1 r1 => ?_
  refine iterM_sound r1 _ p s1 _ E m1 S1 fun it s2 m2 n2 d σ2 p2 S2 pre2 r2 => ?_
  obtain ⟨rfl, l1, l2, lb, e1, e2, ⟨i0, hit⟩, hJ, hend⟩ := p2
  obtain ⟨Ia, ea, rfl⟩ := r2
  refine newList_N S2.F S2.N (fun h3 F3 N3 => ?_) (by simp)
  have fr : s2.heap.objs.size ∉ ads n2 := fresh_of (x := x) (σ := σ2) (s := s2) (m := m2) fun q hq => Heap.lt_size (S2.N q hq).1
  have S3 := S2.push (ao := .ints []) F3 N3 fr ⟨[], 0, rfl, .nil⟩ s2.toks
  generalize hn3 : n2 ++ [(s2.heap.objs.size, ({ cls := .type "list", data := .seq ([] : List Value).toArray } : Obj))] = n3 at S3
  have len3 : (ads n3).length = q + 2 := by
    rw [← hn3]
    have := S2.obj.length
    simp [ads]; omega
  have pre3 : ads n2 <+: ads n3 := by rw [← hn3]; exact pre_append _ _
  have atD : (ads n3)[q + 1]? = some s2.heap.objs.size := by
    rw [← hn3, ← l2]; exact new_at S2 _ _
  have atI : (ads n3)[q]? = some Ia := at_pre ea pre3
  generalize hD : s2.heap.objs.size = D at *
  refine wpAny_newFunctionEnv k2 (by intro y hy; cases hy) (fun h4 hns4 hsb4 => ?_) k1
  have F3 := S3.F
  have N3 := S3.N
  have hCL : h3.objs.size ≠ x.env.locals := fun e => Nat.lt_irrefl _ (e ▸ F3.ns.lt)
  have up4 : ∀ b o, h3.get? b = some o → h4.get? b = some o := fun b o e => hsb4.extBut b o (Nat.ne_of_lt (Heap.lt_size e)) (Heap.get?_push_of_some _ e)
  have base3 : ∀ b o, x.h₀.get? b = some o → (hideAll h3 (ads n3)).get? b = some o := fun b o e => hideAll_get _ (F3.keep b o e) fun q => by
    obtain ⟨p, hp, rfl⟩ := List.mem_map.mp q
    have := (N3 p hp).2.2
    rw [e] at this; cases this
  let x' : Fx := ⟨x.w, hideAll h3 (ads n3), compEnvC scope (clOf x.env.cells scope.names []) h3.objs.size x.env, x.A, x.n, x.os, ads n3⟩
  have ok' : x'.Ok := ⟨hx.base.keeps base3, k1, hx.glo, hx.blt, hx.room⟩
  have hN' : x'.env.scope.names = c'.N := (relab_eq hx hN scope).trans hc'
  have inner : Inner x x' c'.N (q + 2) := ⟨ok', hN', rfl, rfl, len3⟩
  have S4 : Sim x' ⟨[], celN σ1.cel scope.names, σ2.objs ++ [.ints []]⟩ { s2 with heap := h4, toks := s2.toks + ([] : List (Str × Value)).length } (fun y => ([] : List (Str × Value)).reverse.lookup y) n3 := by
    refine ⟨⟨hns4, fun b o e => up4 b o (of_hideAll _ e), by rw [hideAll_size]; exact Nat.le_refl _⟩, fun p hp => ⟨up4 _ _ (N3 p hp).1, Nat.ne_of_lt (Heap.lt_size (N3 p hp).1), hideAll_none _ (List.mem_map_of_mem hp)⟩, S3.nd, fun y d h => (by cases h), fun z i h => ?_, S3.obj, S2.gens, S2.os⟩
    obtain ⟨g1, g2⟩ := celN_mem h
    obtain ⟨a, b1, b2⟩ := S1.cel z i g1
    refine ⟨a, at_pre b1 (pre2.trans pre3), ?_⟩
    rcases clOf_sound b2 scope.names [] (.inr rfl) with w | ⟨_, _, w⟩
    · exact w
    · exact absurd rfl (w _ g2 rfl)
  have loop : codeAny (model pw x.w) x.A (.compLoop (.ListComp elt [⟨.Name y py, iter, ifs, 0⟩] scope pos) 0 (.ref Ia) (.ref D) x'.env) (compPost (model pw x.w) x.A E use Q (.ref D) h3.objs.size) { s2 with heap := h4, toks := s2.toks + ([] : List (Str × Value)).length } := by
    refine codeAny_compLoop_tests (fun nn s => ∃ i σ m news', nn = N + 1 - i ∧ J i σ ∧ Sim x' σ s m news' ∧ ads n3 <+: ads news') (fun nn s5 hI => ?_) (N + 1) ⟨0, _, _, _, rfl, hJ, S4, pre_refl _⟩
    obtain ⟨i, σ5, m5, n5, rfl, hJ5, S5, pre5⟩ := hI
    obtain ⟨t1, t2, t3⟩ := turn x' inner i σ5 hJ5
    have q5 := at_pre atI pre5
    have a5 := at_pre atD pre5
    refine next_sound (x := x') ok' S5 t1 q5 t2 (fun d hd v s6 n6 S6 e6 r6 => ?_) (fun hn h' tk hk => ?_)
    · refine assign_Name ?_
      refine storeM_sound (x := x') ok' hN' r6 _ (ok_bind (t3 d hd)) s6 _ _ m5 S6 fun u s7 m7 n7 u' σ7 p7 S7 pre7 _ => ?_
      have pre7' : ads n3 <+: ads n7 := by rw [e6] at pre7; exact pre5.trans pre7
      have go : ∀ {σ s m news' h}, Cut (q + 2) σ (J (i + 1)) → Sim x' σ s m news' → ads n3 <+: ads news' → h = s → ∃ k, k < N + 1 - i ∧ ∃ i σ m_1 news', k = N + 1 - i ∧ J i σ ∧ Sim x' σ h m_1 news' ∧ ads n3 <+: ads news' := by
        rintro σ s m news' h ⟨ids', n', c1, c2⟩ S8 pre8 rfl
        have b1 := bound _ _ c2
        exact ⟨N + 1 - (i + 1), by omega, i + 1, _, m, _, rfl, c2, S8.cut ok' c1, prefN_ads (cutOk_pref c1) len3 pre8⟩
      have G := good ok' hN' 40
      have body : ∀ {σ s m news'} (E' : Value → Shared → Prop), ok x' ((evalM c' 40 elt σ).bind fun d σ => (bltM .append [.obj (q + 1), d] σ).bind fun _ σ => .ret () σ) (fun _ σ' => Cut (q + 2) σ' (J (i + 1))) → Sim x' σ s m news' → ads n3 <+: ads news' →
          wpAny (model pw x.w) x.A (eval elt x'.env) (fun v s4 => wpAny (model pw x.w) x.A (call (.builtin "list.append") [.ref D, v]) (fun _ s5 => ∃ k, k < N + 1 - i ∧ ∃ i σ m_1 news', k = N + 1 - i ∧ J i σ ∧ Sim x' σ s5 m_1 news' ∧ ads n3 <+: ads news') E' s4) E' s := by
        intro σ s m news' E' hok S8 pre8
        refine G.ev _ _ _ _ (ok_bind hok) s _ E' m S8 fun v s9 m9 n9 d9 σ9 p9 S9 pre9 r9 => ?_
        have ra : All2 (Rel (ads n9)) [Value.ref D, v] [Mine.D.obj (q + 1), d9] := .cons ⟨D, at_pre atD (pre8.trans pre9), rfl⟩ (.cons r9 .nil)
        refine bltM_sound (b := .append) ra _ (ok_bind p9) s9 _ E' m9 S9 fun _ sa ma na _ σa pa Sa prea _ => ?_
        exact go pa Sa ((pre8.trans pre9).trans prea) rfl
      unfold compTurnM at p7
      cases ifs with
      | nil =>
        refine wpAny_tests_nil ?_
        rw [if_pos rfl]
        exact body _ p7 S7 pre7'
      | cons t r =>
        cases r with
        | cons _ _ => exact p7.elim
        | nil =>
          refine wpAny_tests_one ?_
          refine G.tr _ _ _ _ (ok_bind p7) s7 _ _ m7 S7 fun b s8 m8 n8 b' σ8 p8 S8 pre8 r8 => ?_
          obtain ⟨o1, o2⟩ := brK_ok p8
          cases b with
          | true => rw [if_pos rfl]; exact body _ (o1 r8.symm) S8 (pre7'.trans pre8)
          | false => rw [if_neg Bool.false_ne_true]; exact go (o2 r8.symm) S8 (pre7'.trans pre8) rfl
    · obtain ⟨ids, n, c1, c2, c3, hP⟩ := hend i σ5 hJ5 hn
      have hlt := cutOk_lt c1
      have nI : Ia ∉ ads (subN n5 ids) := not_in_sub S5 hlt q5 c2
      have len1 : (ads n1).length = q := by rw [← l1, ← S1.obj.length]; simp [ads]
      have pre1' : ads n1 <+: ads (subN n5 ids) := prefN_ads (cutOk_pref c1) len1 ((pre2.trans pre3).trans pre5)
      have wI := S5.at t1
      obtain ⟨Ia', oI, g1, g2, _, hmI⟩ := wI
      rw [q5] at g2; cases g2
      have wI := S5.N _ hmI
      have hLe : ∃ oL, h3.get? x.env.locals = some oL := by obtain ⟨o, _, _, e, _⟩ := F3.ns; exact ⟨o, e⟩
      have nL : x.env.locals ∉ ads n3 := fun q => by
        obtain ⟨p, hp, e⟩ := List.mem_map.mp q
        exact (N3 p hp).2.1 e
      have keepL : ∀ o, h3.get? x.env.locals = some o → h'.get? x.env.locals = some o := fun o e => by
        have z : x'.h₀.get? x.env.locals = some o := hideAll_get _ e nL
        refine hk _ _ (fun q => ?_) (S5.F.keep _ _ z)
        have q := List.mem_singleton.mp q
        have := wI.2.2
        rw [← q, z] at this; cases this
      have keep0 : ∀ b o, x.h₀.get? b = some o → h'.get? b = some o := fun b o e => by
        have z := base3 b o e
        refine hk _ _ (fun q => ?_) (S5.F.keep _ _ z)
        have q := List.mem_singleton.mp q
        have z : x'.h₀.get? b = some o := z
        have := wI.2.2
        rw [← q, z] at this; cases this
      have Ff : Fr x.h₀ x.env.locals h' m2 := by
        obtain ⟨oL, es, ep, hL, r⟩ := F3.ns
        exact ⟨⟨oL, es, ep, keepL _ hL, r⟩, keep0, F3.above⟩
      obtain ⟨hd1, hc1⟩ : nodupN ids = true ∧ ((∀ i ∈ ids, ∀ j ∈ (σ5.objs.getD i .deq).refs, j ∈ ids)) := by
        have h := c1
        unfold cutOk at h
        obtain ⟨h, h6⟩ := Bool.and_eq_true_iff.mp h
        obtain ⟨h5, hc⟩ := Bool.and_eq_true_iff.mp h
        obtain ⟨hc, h4⟩ := Bool.and_eq_true_iff.mp hc
        obtain ⟨hc, h3⟩ := Bool.and_eq_true_iff.mp hc
        obtain ⟨h1, h2⟩ := Bool.and_eq_true_iff.mp hc
        exact ⟨h1, fun i hi j hj => memN_iff.mp (allN_iff (allN_iff h3 i hi) j hj)⟩
      have O := call_own ok' S5 (nodupN_iff hd1) hlt hc1
      have Nf : News x.h₀ x.env.locals h' (subN n5 ids) := fun p hp => by
        have w := S5.N p (mem_sub S5 hlt hp)
        refine ⟨hk _ _ (fun q => nI (by rw [← List.mem_singleton.mp q]; exact List.mem_map_of_mem hp)) w.1, fun e => ?_, ?_⟩
        · obtain ⟨oL, hL⟩ := hLe
          have z : x'.h₀.get? x.env.locals = some oL := hideAll_get _ hL nL
          have := w.2.2
          rw [e, z] at this; cases this
        · cases z : x.h₀.get? p.1 with
          | none => rfl
          | some o => have := w.2.2; rw [show x'.h₀.get? p.1 = some o from base3 _ _ z] at this; cases this
      unfold locBelow at lb
      obtain ⟨lb1, lb2⟩ := Bool.and_eq_true_iff.mp lb
      have low : ∀ j a, j < q → (ads n2)[j]? = some a → (ads (subN n5 ids))[j]? = some a := fun j a hj ha => by
        have e : (ads n1)[j]? = some ((ads n1).getD j 0) := some_of_lt 0 (by rw [len1]; exact hj)
        have e2 := at_pre e pre2
        rw [ha] at e2; cases e2
        exact at_pre e pre1'
      have Sf : Sim x ⟨σ1.loc, σ1.cel, subO σ5.objs ids⟩ { s5 with heap := h', toks := tk } m2 (subN n5 ids) := by
        refine ⟨Ff, Nf, O.nd, fun z d hz => ?_, fun z i hz => ?_, O.obj, S5.gens, S5.os⟩
        · have hz' : lk z σ2.loc = some d := by rw [e1]; exact hz
          obtain ⟨v, w1, w2⟩ := S2.loc z d hz'
          refine ⟨v, w1, ?_⟩
          cases d with
          | obj j =>
            obtain ⟨a, b1, b2⟩ := w2
            have hj : j < q := Nat.le_of_ble_eq_true (allN_iff lb1 j (List.mem_flatMap.mpr ⟨.obj j, List.mem_map.mpr ⟨_, lk_mem hz, rfl⟩, .head _⟩))
            exact ⟨a, low j a hj b1, b2⟩
          | _ => exact w2
        · have hz' : lk z σ2.cel = some i := by rw [e2]; exact hz
          obtain ⟨a, w1, w2⟩ := S2.cel z i hz'
          have hj : i < q := Nat.le_of_ble_eq_true (allN_iff lb2 i (List.mem_map.mpr ⟨_, lk_mem hz, rfl⟩))
          exact ⟨a, low i a hj w1, w2⟩
      refine fin D h3.objs.size _ m2 _ _ _ m5 hP Sf (pre1.trans pre1') ⟨D, ads_sub S5 hlt (memN_iff.mp c3) a5, rfl⟩ ?_ ?_ hCL ?_
      · exact S5.F.ns.at' fun o e => hk _ o (fun q => wI.2.1 (List.mem_singleton.mp q).symm) e
      · intro q
        obtain ⟨p, hp, e⟩ := List.mem_map.mp q
        exact (S5.N p (mem_sub S5 hlt hp)).2.1 e
      · cases z : x.h₀.get? h3.objs.size with
        | none => rfl
        | some o => exact absurd (Heap.lt_size (F3.keep _ _ z)) (Nat.lt_irrefl _)
  exact codeAny_compStart_list loop (iter_self (x := x') S4 (by show (σ2.objs ++ [AO.ints []])[q]? = _; rw [List.getElem?_append_left (by omega)]; exact hit) atI loop)
/-- the value of a comprehension -/
theorem EvOk.comp (hx : x.Ok) (hN : x.env.scope.names = c.N) {y : Str} {py pos : Pos} {elt iter : Expr} {ifs : List Expr} {scope : Scope} {σ : St} {P : D → St → Prop} (c' : Cfg) (q N : Nat) (K : ItK) (J : Nat → St → Prop)
    (hs : ∀ v, foldedSetIterable iter x.env v = pure v) (hsc : scOk scope y = true) (hc' : relabN c.N scope.names = c'.N) (hca : celAll σ.cel scope.names = true)
    (start : ok x (evalM c 40 iter σ) fun d0 σ1 => ok x (iterM d0 σ1) fun d σ2 => d = .obj q ∧ σ1.objs.length = q ∧ σ2.objs.length = q + 1 ∧ locBelow q σ1 = true ∧ σ2.loc = σ1.loc ∧ σ2.cel = σ1.cel ∧
      (∃ i, σ2.objs[q]? = some (.it K i)) ∧ J 0 ⟨[], celN σ1.cel scope.names, σ2.objs ++ [.ints []]⟩ ∧
      ∀ i σ', J i σ' → itemOf K σ'.objs i = none → ∃ ids n, cutOk q ids n σ' = true ∧ memN ids q = false ∧ memN ids (q + 1) = true ∧ P (.obj (Mine.pos ids (q + 1))) ⟨σ1.loc, σ1.cel, subO σ'.objs ids⟩)
    (bound : ∀ i σ, J i σ → i ≤ N)
    (turn : ∀ x' : Fx, Inner x x' c'.N (q + 2) → ∀ i σ, J i σ → σ.objs[q]? = some (.it K i) ∧ srcOk K σ.objs = true ∧
      (∀ d, itemOf K σ.objs i = some d → ok x' ((storeM c'.N y d (setO σ q (.it K (i + 1)))).bind fun _ σ => compTurnM c' ifs elt (q + 1) σ) fun _ σ' => Cut (q + 2) σ' (J (i + 1)))) : EvOk x (.ListComp elt [⟨.Name y py, iter, ifs, 0⟩] scope pos) σ P := by
  intro s Q E m news S post
  rw [eval_ListComp]
  refine comp_core hx hN c' q N K J (use := none) S hs hsc hc' hca start bound turn ?_
  intro D C s' m' news' d σf mC hp S' pre r hn hC hL h0
  exact ⟨mC, hn, fun h' hs' => post _ _ _ _ _ _ hp (S'.same hC hL h0 hs') pre r⟩
/-- a comprehension that is stored at once -/
theorem ExOk.comp (hx : x.Ok) (hN : x.env.scope.names = c.N) {y t : Str} {py pt pos spos : Pos} {elt iter : Expr} {ifs : List Expr} {scope : Scope} {σ : St} {P : Fl → St → Prop} (c' : Cfg) (q N : Nat) (K : ItK) (J : Nat → St → Prop)
    (hsw : swapsWith (.ListComp elt [⟨.Name y py, iter, ifs, 0⟩] scope pos) (some (.Name t pt)) spos.line x.env = pure true) (ht : lk t c.N = some .local)
    (hs : ∀ v, foldedSetIterable iter x.env v = pure v) (hsc : scOk scope y = true) (hc' : relabN c.N scope.names = c'.N) (hca : celAll σ.cel scope.names = true)
    (start : ok x (evalM c 40 iter σ) fun d0 σ1 => ok x (iterM d0 σ1) fun d σ2 => d = .obj q ∧ σ1.objs.length = q ∧ σ2.objs.length = q + 1 ∧ locBelow q σ1 = true ∧ σ2.loc = σ1.loc ∧ σ2.cel = σ1.cel ∧
      (∃ i, σ2.objs[q]? = some (.it K i)) ∧ J 0 ⟨[], celN σ1.cel scope.names, σ2.objs ++ [.ints []]⟩ ∧
      ∀ i σ', J i σ' → itemOf K σ'.objs i = none → ∃ ids n, cutOk q ids n σ' = true ∧ memN ids q = false ∧ memN ids (q + 1) = true ∧ P .next ⟨put t (.obj (Mine.pos ids (q + 1))) σ1.loc, σ1.cel, subO σ'.objs ids⟩)
    (bound : ∀ i σ, J i σ → i ≤ N)
    (turn : ∀ x' : Fx, Inner x x' c'.N (q + 2) → ∀ i σ, J i σ → σ.objs[q]? = some (.it K i) ∧ srcOk K σ.objs = true ∧
      (∀ d, itemOf K σ.objs i = some d → ok x' ((storeM c'.N y d (setO σ q (.it K (i + 1)))).bind fun _ σ => compTurnM c' ifs elt (q + 1) σ) fun _ σ' => Cut (q + 2) σ' (J (i + 1)))) : ExOk x [.Assign [.Name t pt] (.ListComp elt [⟨.Name y py, iter, ifs, 0⟩] scope pos) spos] σ P := by
  intro s Q E m news S a0 post
  refine wpAny_execs_cons ?_
  rw [exec_Assign_Name_used _ _ _ _ hsw]
  refine wpAny_bind (wpAny_standAt (wpAny_bind ?_))
  show wpAny _ x.A (do let _ ← comprehension (.ListComp elt [⟨.Name y py, iter, ifs, 0⟩] scope pos) scope x.env _ (newList []) false (eval iter x.env) (some (assign (.Name t pt) x.env))) _ _ s
  refine wpAny_bind (wpAny_mono (comp_core hx hN c' q N K J (P := fun d σ => P .next { σ with loc := put t d σ.loc }) (use := some (assign (.Name t pt) x.env)) (Q := fun _ s' => wpAny (model pw x.w) x.A (execs [] x.env) Q E s') S hs hsc hc' hca start bound turn ?_) (fun _ s' hq => wpAny_pure (wpAny_pure hq)) fun _ _ e => e)
  intro D C s' m' news' d σf mC hp S' pre r hn hC hL h0
  show wpAny _ x.A (assign (.Name t pt) x.env (.ref D)) _ _ _
  refine assign_Name (wpAny_storeName_local (by unfold Env.kindOf; rw [hN]; exact lk_lookup ht) S'.F.ns (fun h' hn' hs' => ?_) (by rw [hx.kind]; rfl))
  have S2 := S'.local (S'.F.set hn' hs') (S'.N.set hs') r (s'.toks + 1)
  refine ⟨mC, hn.sameBut hs' hL, fun h'' hs'' => wpAny_execs_nil (post _ _ _ _ .next _ hp (S2.same hC hL h0 hs'') (a0.trans pre) trivial)⟩
end
end
end Mine
namespace Mine
noncomputable section
noncomputable def cellNames : List (Str × NameKind) → List Str
  | [] => []
  | p :: r => match p.2 with
    | .cell => p.1 :: cellNames r
    | _ => cellNames r
noncomputable def celOf (k : Nat) : List Str → List (Str × Nat)
  | [] => []
  | y :: r => (y, k) :: celOf (k + 1) r
noncomputable def locOf (N : List (Str × NameKind)) : List (Str × D) → List (Str × D)
  | [] => []
  | p :: r => match lk p.1 N with
    | some .local => p :: locOf N r
    | _ => locOf N r
noncomputable def memS (y : Str) : List Str → Bool
  | [] => false
  | z :: r => match Fast.sEq z y with
    | true => true
    | false => memS y r
noncomputable def nodupS : List Str → Bool
  | [] => true
  | y :: r => !memS y r && nodupS r
theorem memS_iff {y : Str} : ∀ {l : List Str}, memS y l = true ↔ y ∈ l
  | [] => by simp [memS]
  | z :: r => by
    unfold memS
    cases q : Fast.sEq z y with
    | true => have := Fast.sEq_iff.mp q; subst this; simp
    | false =>
      have : y ≠ z := fun e => by rw [Fast.sEq_iff.mpr e.symm] at q; cases q
      simp [memS_iff (l := r), this]
theorem nodupS_iff : ∀ {l : List Str}, nodupS l = true → l.Nodup
  | [], _ => List.nodup_nil
  | y :: r, h => by
    obtain ⟨h1, h2⟩ := Bool.and_eq_true_iff.mp h
    refine List.nodup_cons.mpr ⟨fun q => ?_, nodupS_iff h2⟩
    rw [memS_iff.mpr q] at h1; cases h1
theorem cells_keep {y : Str} : ∀ (names : List (Str × NameKind)) (n : Nat) (acc : List (Str × Addr)), y ∉ cellNames names → (cellsFrom n names acc).lookup y = acc.lookup y
  | [], _, _, _ => rfl
  | (z, k) :: r, n, acc, h => by
    unfold cellsFrom
    cases k with
    | cell =>
      rw [if_pos (show (NameKind.cell == NameKind.cell) = true by decide)]
      have h : y ∉ z :: cellNames r := h
      rw [cells_keep r _ _ (fun q => h (.tail _ q)), List.lookup_cons, beq_eq_false_iff_ne.mpr (fun e => h (by rw [e]; exact .head _))]
    | _ => exact cells_keep r n acc h
theorem cells_at {y : Str} : ∀ (names : List (Str × NameKind)) (n : Nat) (acc : List (Str × Addr)) (j : Nat), (cellNames names).Nodup → (cellNames names)[j]? = some y → (cellsFrom n names acc).lookup y = some (n + j)
  | [], _, _, _, _, h => by simp [cellNames] at h
  | (z, k) :: r, n, acc, j, nd, h => by
    unfold cellsFrom
    cases k with
    | cell =>
      rw [if_pos (show (NameKind.cell == NameKind.cell) = true by decide)]
      have nd : (z :: cellNames r).Nodup := nd
      have h : (z :: cellNames r)[j]? = some y := h
      obtain ⟨n1, n2⟩ := List.nodup_cons.mp nd
      cases j with
      | zero =>
        have h : z = y := by simpa using h
        subst h
        rw [cells_keep r _ _ n1, List.lookup_cons, beq_self_eq_true]; rfl
      | succ j =>
        have := cells_at r (n + 1) ((z, n) :: acc) j n2 (by simpa using h)
        rw [this]; congr 1; omega
    | _ => exact cells_at r n acc j nd h
theorem bindL_keep {kindOf : Str → Option NameKind} {y : Str} : ∀ (binds : List (Str × Value)) (m : Str → Option Value), y ∉ binds.map (·.1) → bindL kindOf binds m y = m y
  | [], _, _ => rfl
  | (z, v) :: r, m, h => by
    unfold bindL
    rw [bindL_keep r _ fun q => h (.tail _ q)]
    by_cases hz : kindOf z = some .local
    · rw [if_pos hz]; exact if_neg fun e => h (by rw [e]; exact .head _)
    · rw [if_neg hz]
theorem bindL_get {kindOf : Str → Option NameKind} {y : Str} {v : Value} : ∀ (binds : List (Str × Value)) (m : Str → Option Value), (binds.map (·.1)).Nodup → (y, v) ∈ binds → kindOf y = some .local → bindL kindOf binds m y = some v
  | [], _, _, h, _ => by cases h
  | (z, u) :: r, m, nd, h, hk => by
    obtain ⟨n1, n2⟩ := List.nodup_cons.mp nd
    unfold bindL
    rcases List.mem_cons.mp h with e | h
    · cases e; rw [bindL_keep r _ n1, if_pos hk]; exact if_pos rfl
    · exact bindL_get r _ n2 h hk
theorem bindC_keep {kindOf : Str → Option NameKind} {y : Str} : ∀ (binds : List (Str × Value)) (m : Str → Option Value), y ∉ binds.map (·.1) → bindC kindOf binds m y = m y
  | [], _, _ => rfl
  | (z, v) :: r, m, h => by
    unfold bindC
    rw [bindC_keep r _ fun q => h (.tail _ q)]
    by_cases hz : kindOf z = some .local
    · rw [if_pos hz]
    · rw [if_neg hz]; exact if_neg fun e => h (by rw [e]; exact .head _)
theorem bindC_get {kindOf : Str → Option NameKind} {y : Str} {v : Value} : ∀ (binds : List (Str × Value)) (m : Str → Option Value), (binds.map (·.1)).Nodup → (y, v) ∈ binds → kindOf y ≠ some .local → bindC kindOf binds m y = some v
  | [], _, _, h, _ => by cases h
  | (z, u) :: r, m, nd, h, hk => by
    obtain ⟨n1, n2⟩ := List.nodup_cons.mp nd
    unfold bindC
    rcases List.mem_cons.mp h with e | h
    · cases e; rw [bindC_keep r _ n1, if_neg hk]; exact if_pos rfl
    · exact bindC_get r _ n2 h hk
noncomputable def plainFnC (fd : FuncData) : Bool := (fd.scope.kind == .function) && !fd.scope.isCoroutine && !fd.scope.isGenerator && Nat.beq fd.globals mainGlobals && Nat.beq fd.builtins builtinsNs && fd.closure.isEmpty && nodupS (cellNames fd.scope.names)
noncomputable def namesOkC (fd : FuncData) (names : List Str) : Bool := match names with
  | [] => true
  | y :: r => (match lk y fd.scope.names with
    | some .local => !memS y (cellNames fd.scope.names)
    | some .cell => memS y (cellNames fd.scope.names)
    | _ => false) && !memS y r && namesOkC fd r
theorem namesOkC_mem {fd : FuncData} : ∀ {names : List Str}, namesOkC fd names = true → ∀ y ∈ names, (fd.scope.names.lookup y = some .local ∧ y ∉ cellNames fd.scope.names) ∨ (fd.scope.names.lookup y = some .cell ∧ y ∈ cellNames fd.scope.names)
  | [], _, _, h => by cases h
  | z :: r, h, y, hy => by
    unfold namesOkC at h
    obtain ⟨h, h3⟩ := Bool.and_eq_true_iff.mp h
    obtain ⟨h1, h2⟩ := Bool.and_eq_true_iff.mp h
    rcases List.mem_cons.mp hy with rfl | hy
    · split at h1
      · rename_i q; exact .inl ⟨lk_lookup q, fun z => by rw [memS_iff.mpr z] at h1; cases h1⟩
      · rename_i q; exact .inr ⟨lk_lookup q, memS_iff.mp h1⟩
      · cases h1
    · exact namesOkC_mem h3 y hy
theorem namesOkC_nodup {fd : FuncData} : ∀ {names : List Str}, namesOkC fd names = true → names.Nodup
  | [], _ => List.nodup_nil
  | z :: r, h => by
    unfold namesOkC at h
    obtain ⟨h, h3⟩ := Bool.and_eq_true_iff.mp h
    obtain ⟨h1, h2⟩ := Bool.and_eq_true_iff.mp h
    refine List.nodup_cons.mpr ⟨fun q => ?_, namesOkC_nodup h3⟩
    rw [memS_iff.mpr q] at h2; cases h2
theorem lk_zip {as : List Addr} {y : Str} {d : D} : ∀ {names : List Str} {vals : List Value} {ds : List D}, All2 (Rel as) vals ds → lk y (names.zip ds) = some d → ∃ v, (y, v) ∈ names.zip vals ∧ Rel as v d
  | [], _, _, _, h => by simp [lk] at h
  | z :: r, _, _, .nil, h => by simp [lk] at h
  | z :: r, v :: vals, e :: ds, .cons rv q, h => by
    rw [List.zip_cons_cons] at h ⊢
    unfold lk at h
    cases z' : Fast.sEq z y with
    | true => rw [z'] at h; cases h; have := Fast.sEq_iff.mp z'; subst this; exact ⟨v, .head _, rv⟩
    | false => rw [z'] at h; obtain ⟨v', h1, h2⟩ := lk_zip q h; exact ⟨v', .tail _ h1, h2⟩
theorem lk_locOf {N : List (Str × NameKind)} {y : Str} {d : D} : ∀ {l : List (Str × D)}, lk y (locOf N l) = some d → lk y N = some .local
  | [], h => by cases h
  | p :: r, h => by
    unfold locOf at h
    split at h
    · rename_i q
      unfold lk at h
      cases z : Fast.sEq p.1 y with
      | true => have := Fast.sEq_iff.mp z; rw [← this]; exact q
      | false => rw [z] at h; exact lk_locOf h
    · exact lk_locOf h
theorem lk_locOf' {N : List (Str × NameKind)} {y : Str} {d : D} : ∀ {l : List (Str × D)}, (l.map (·.1)).Nodup → lk y (locOf N l) = some d → lk y l = some d
  | [], _, h => by cases h
  | p :: r, nd, h => by
    obtain ⟨n1, n2⟩ := List.nodup_cons.mp nd
    unfold locOf at h
    unfold lk
    split at h
    · unfold lk at h
      cases z : Fast.sEq p.1 y with
      | true => rw [z] at h; exact h
      | false => rw [z] at h; exact lk_locOf' n2 h
    · rename_i hq
      have hr := lk_locOf' n2 h
      cases z : Fast.sEq p.1 y with
      | true => have := Fast.sEq_iff.mp z; subst this; exact absurd (List.mem_map.mpr ⟨_, lk_mem hr, rfl⟩) n1
      | false => exact hr
theorem lk_celOf {y : Str} {i : Nat} : ∀ {l : List Str} {k : Nat}, lk y (celOf k l) = some i → ∃ j, l[j]? = some y ∧ i = k + j
  | [], _, h => by cases h
  | z :: r, k, h => by
    unfold celOf lk at h
    cases q : Fast.sEq z y with
    | true =>
      dsimp only at h
      rw [q] at h; cases h
      have := Fast.sEq_iff.mp q
      subst this
      exact ⟨0, rfl, rfl⟩
    | false =>
      dsimp only at h
      rw [q] at h
      obtain ⟨j, h1, h2⟩ := lk_celOf h
      exact ⟨j + 1, by simpa using h1, by omega⟩
noncomputable def entry (N : List (Str × NameKind)) (l : List (Str × D)) (os : List AO) : St := ⟨locOf N l, celOf os.length (cellNames N), os ++ (cellNames N).map fun y => .cell (lk y l)⟩
theorem all2_append {α β : Type} {R : α → β → Prop} : ∀ {l : List α} {l' : List β}, All2 R l l' → ∀ {k : List α} {k' : List β}, All2 R k k' → All2 R (l ++ k) (l' ++ k') := fun h _ _ k => h.append k
theorem zip_nodup {β : Type} : ∀ {names : List Str}, names.Nodup → ∀ l : List β, ((names.zip l).map (·.1)).Nodup
  | [], _, _ => List.nodup_nil
  | y :: r, h, [] => List.nodup_nil
  | y :: r, h, b :: l => by
    obtain ⟨n1, n2⟩ := List.nodup_cons.mp h
    rw [List.zip_cons_cons, List.map_cons]
    refine List.nodup_cons.mpr ⟨fun q => ?_, zip_nodup n2 l⟩
    obtain ⟨p, hp, e⟩ := List.mem_map.mp q
    have e : p.1 = y := e
    exact n1 (by rw [← e]; exact (List.of_mem_zip hp).1)
noncomputable def CallOkG (w : World) (n : Nat) (f : Addr) (args : List D) (os : List AO) (G : Around → List Addr → Prop) (P : D → List AO → Prop) : Prop :=
  ∀ (A : Around) (s : Shared) (hb : Heap) (news : List (Addr × Obj)) (vals : List Value) (R : Result → Shared → Prop), Room (n + 1) A → G A (ads news) → Base w hb → Own hb s.heap news os → All2 (Rel (ads news)) vals args → s.gens = #[] →
    (∀ v s' news' d os', P d os' → Own hb s'.heap news' os' → ads news <+: ads news' → Rel (ads news') v d → s'.gens = #[] → s'.os = s.os → R (.ok (.ret v)) s') →
    codeAny (model pw w) A (.call (.ref f) ⟨vals, []⟩) R s
/-- what is known of the frame -/
structure FrameOf (x : Fx) (fd : FuncData) (G : Around → List Addr → Prop) : Prop where
  up : ∃ A, x.A = A.deeper x.env ∧ G A x.a0
  fr : x.env.frame = some x.env.locals
theorem enter0 {w : World} {n : Nat} {f : Addr} {args : List D} {os : List AO} {G : Around → List Addr → Prop} {fd : FuncData} {body : List Stmt} {names : List Str} {oc : Value} (dv : List Value) (dd : List D) (hd : All2 (Rel []) dv dd)
    (ho : (K w.params).lookup f = some ⟨oc, none, .func fd, #[]⟩) (hp : plainFnC fd = true) (hcd : codeIn (K w.params) fd.code fd.qualname = true) (hbody : fd.body = .stmts body) (hn : namesOkC fd names = true)
    (hbind : ∀ (s : Shared) (vals : List Value), (K w.params).In s.heap → vals.length = args.length → BindsTo s fd ⟨vals, []⟩ (names.zip (vals ++ dv)))
    {A : Around} {s : Shared} {hb : Heap} {news : List (Addr × Obj)} {vals : List Value} {R : Result → Shared → Prop} (rm : Room (n + 1) A) (hG : G A (ads news)) (hB : Base w hb) (O : Own hb s.heap news os) (ra : All2 (Rel (ads news)) vals args) (hg : s.gens = #[])
    (k : ∀ (x : Fx) (h₁ : Heap) (tk : Nat) (m : Str → Option Value) (news₁ : List (Addr × Obj)), Entered x w n fd os.length → x.h₀ = hb → x.os = s.os → x.a0 = ads news → x.A = A.deeper x.env → x.env.frame = some x.env.locals → x.env.locals = s.heap.objs.size →
      x.env = newEnv fd.scope x.env.locals fd.globals (cellsFrom (x.env.locals + 1) fd.scope.names []) (fd.qualname ++ ".<locals>.") (some f) fd.code none fd.builtins → (∀ b o, s.heap.get? b = some o → h₁.get? b = some o) →
      Sim x (entry fd.scope.names (names.zip (args ++ dd)) os) { s with heap := h₁, toks := tk } m news₁ → ads news <+: ads news₁ →
      wpAny (model pw x.w) x.A (execs body x.env) (fun f s' => R (.ok (.ret (match f with | .ret v => v | _ => .none))) s') (fun e s' => wpAny (model pw x.w) x.A (leaving x.env e) (fun _ s'' => R (.error e) s'') (fun e' s'' => R (.error e') s'') s') { s with heap := h₁, toks := tk }) :
    codeAny (model pw w) A (.call (.ref f) ⟨vals, []⟩) R s := by
  unfold plainFnC at hp
  obtain ⟨hp, h8⟩ := Bool.and_eq_true_iff.mp hp
  obtain ⟨hp, h7⟩ := Bool.and_eq_true_iff.mp hp
  obtain ⟨hp, h6⟩ := Bool.and_eq_true_iff.mp hp
  obtain ⟨hp, h5⟩ := Bool.and_eq_true_iff.mp hp
  obtain ⟨hp, h4⟩ := Bool.and_eq_true_iff.mp hp
  obtain ⟨h2, h3⟩ := Bool.and_eq_true_iff.mp hp
  have kin := hB.kin.keeps O.keep
  have hroom : A.depth < recursionLimit := by have := rm.depth; omega
  have hk : fd.scope.kind = .function := beq_iff_eq.mp h2
  have ndc := nodupS_iff h8
  have hbd := hbind s vals kin ra.length
  have rall : All2 (Rel (ads news)) (vals ++ dv) (args ++ dd) := ra.append (all2_mono (fun _ _ r => r.mono ⟨ads news, rfl⟩) hd)
  have hnm := namesOkC_mem hn
  have ndn := namesOkC_nodup hn
  refine codeAny_call_function hroom (kin _ _ ho) rfl (by simpa using h3) (by simpa using h4) hbody (codeRec_of kin hcd) (hbd _ _ _ _ ?_)
  have hcl : fd.closure = [] := by simpa using h7
  rw [hcl]
  refine wpAny_newFunctionEnv_cells hk (fun p hp => ?_) fun env' he s' X => ?_
  · have hy := (List.of_mem_zip hp).1
    rcases hnm _ hy with ⟨q, _⟩ | ⟨q, q2⟩
    · exact .inl q
    · refine .inr ⟨q, ?_⟩
      obtain ⟨j, hj⟩ := List.getElem?_of_mem q2
      rw [cells_at _ _ _ j ndc hj]; rfl
  subst he
  have hsame : ∃ h₁ tk, s' = { s with heap := h₁, toks := tk } ∧ ∀ b o, s.heap.get? b = some o → h₁.get? b = some o := X.toInCall.done
  obtain ⟨h₁, tk, rfl, hkeep⟩ := hsame
  refine ⟨(hB.nolimit.keeps O.keep).keeps hkeep, codeAny_func ?_⟩
  let L := s.heap.objs.size
  let env : Env := newEnv fd.scope L fd.globals (cellsFrom (L + 1) fd.scope.names []) (fd.qualname ++ ".<locals>.") (some f) fd.code none fd.builtins
  have rd := rm.depth
  have ru := rm.units
  let x : Fx := ⟨w, hb, env, A.deeper env, n, s.os, ads news⟩
  have hx : x.Ok := by
    refine ⟨hB, hk, Nat.eq_of_beq_eq_true h5, Nat.eq_of_beq_eq_true h6, ⟨?_, ?_, rm.handled⟩⟩
    · show A.depth + 1 + 8 * n < recursionLimit; omega
    · show A.units + 3 + 64 + 40 * n < cLine; omega
  have lenN : (ads news).length = os.length := by rw [← O.obj.length]; simp [ads]
  -- the cells
  let cs : List (Addr × Obj) := (List.range (cellNames fd.scope.names).length).map fun j => (L + 1 + j, (h₁.get? (L + 1 + j)).getD default)
  have csAt : ∀ j y, (cellNames fd.scope.names)[j]? = some y → cs[j]? = some (L + 1 + j, (h₁.get? (L + 1 + j)).getD default) ∧ h₁.get? (L + 1 + j) = some ((h₁.get? (L + 1 + j)).getD default) ∧
      ((h₁.get? (L + 1 + j)).getD default).data = .cell (bindC env.kindOf (names.zip (vals ++ dv)) (fun _ => none) y) := fun j y hj => by
    obtain ⟨o, e1, e2⟩ := X.cell y _ (cells_at _ _ _ j ndc hj)
    have e1 : h₁.get? (L + 1 + j) = some o := e1
    have hlt := (List.getElem?_eq_some_iff.mp hj).1
    refine ⟨?_, by rw [e1]; rfl, by rw [e1]; exact e2⟩
    show ((List.range _).map _)[j]? = _
    rw [List.getElem?_map, List.getElem?_range hlt]; rfl
  have csMem : ∀ p ∈ cs, ∃ j y, (cellNames fd.scope.names)[j]? = some y ∧ p = (L + 1 + j, (h₁.get? (L + 1 + j)).getD default) := fun p hp => by
    obtain ⟨j, hj, rfl⟩ := List.mem_map.mp hp
    have hj := List.mem_range.mp hj
    exact ⟨j, _, List.getElem?_eq_getElem hj, rfl⟩
  have adsCs : ads cs = (List.range (cellNames fd.scope.names).length).map fun j => L + 1 + j := by
    show (List.map _ _).map _ = _
    rw [List.map_map]; rfl
  have kindN : ∀ y, env.kindOf y = fd.scope.names.lookup y := fun _ => rfl
  have zipNd : ((names.zip (vals ++ dv)).map (·.1)).Nodup := zip_nodup ndn _
  have zipNd' : ((names.zip (args ++ dd)).map (·.1)).Nodup := zip_nodup ndn _
  have S : Sim x (entry fd.scope.names (names.zip (args ++ dd)) os) { s with heap := h₁, toks := tk } (bindL env.kindOf (names.zip (vals ++ dv)) fun _ => none) (news ++ cs) := by
    have pre : ads news <+: ads (news ++ cs) := ⟨ads cs, by simp [ads]⟩
    refine ⟨⟨X.toInCall.ns, fun b o e => hkeep _ _ (O.keep b o e), O.size⟩, fun p hp => ?_, ?_, fun y d q => ?_, fun y i q => ?_, ?_, hg, rfl⟩
    · rcases List.mem_append.mp hp with hp | hp
      · exact ⟨hkeep _ _ (O.own p hp).1, Nat.ne_of_lt (Heap.lt_size (O.own p hp).1), (O.own p hp).2⟩
      · obtain ⟨j, y, hj, rfl⟩ := csMem p hp
        refine ⟨(csAt j y hj).2.1, ?_, ?_⟩
        · show L + 1 + j ≠ L; omega
        · exact Heap.get?_none_of_le (Nat.le_trans O.size (by show L ≤ L + 1 + j; omega))
    · show ((news ++ cs).map (·.1)).Nodup
      rw [List.map_append, List.nodup_append]
      refine ⟨O.nd, ?_, fun u hu v hv e => ?_⟩
      · show (ads cs).Nodup
        rw [adsCs]
        exact List.Pairwise.map _ (fun a b (h : a ≠ b) e => h (Nat.add_left_cancel e)) List.nodup_range
      · subst e
        obtain ⟨p, hp, rfl⟩ := List.mem_map.mp hu
        have hv : p.1 ∈ ads cs := hv
        rw [adsCs] at hv
        obtain ⟨j, _, e⟩ := List.mem_map.mp hv
        have := Heap.lt_size (O.own p hp).1
        rw [← e] at this
        exact absurd this (Nat.not_lt.mpr (by show s.heap.objs.size ≤ s.heap.objs.size + 1 + j; omega))
    · have q1 := lk_locOf q
      have q2 := lk_locOf' zipNd' q
      obtain ⟨v, g1, g2⟩ := lk_zip rall q2
      refine ⟨v, bindL_get _ _ zipNd g1 ?_, g2.mono pre⟩
      rw [kindN]; exact lk_lookup q1
    · obtain ⟨j, q1, rfl⟩ := lk_celOf q
      refine ⟨L + 1 + j, ?_, cells_at _ _ _ j ndc q1⟩
      show ((news ++ cs).map (·.1))[os.length + j]? = _
      have el : (news.map (·.1)).length = os.length := lenN
      rw [List.map_append, List.getElem?_append_right (by omega), el, Nat.add_sub_cancel_left, List.getElem?_map, (csAt j y q1).1]; rfl
    · refine (all2_mono (fun _ _ q => q.mono pre) O.obj).append ?_
      refine all2_of_get (by simp [cs]) fun j p ao h1 h2 => ?_
      rw [List.getElem?_map] at h2
      cases hy : (cellNames fd.scope.names)[j]? with
      | none => rw [hy] at h2; cases h2
      | some y =>
        rw [hy] at h2
        cases h2
        obtain ⟨e1, e2, e3⟩ := csAt j y hy
        rw [e1] at h1; cases h1
        refine ⟨_, e3, ?_⟩
        cases hl : lk y (names.zip (args ++ dd)) with
        | none => trivial
        | some d =>
          obtain ⟨v, g1, g2⟩ := lk_zip rall hl
          refine ⟨v, bindC_get _ _ zipNd g1 ?_, g2.mono pre⟩
          rw [kindN]
          have hy' := (List.of_mem_zip g1).1
          intro e
          rcases hnm y hy' with ⟨_, q2⟩ | ⟨q1, _⟩
          · exact q2 (List.mem_of_getElem? hy)
          · rw [q1] at e; cases e
  have pre0 : ads news <+: ads (news ++ cs) := ⟨ads cs, by simp [ads]⟩
  exact k x h₁ tk _ (news ++ cs) ⟨hx, rfl, rfl, rfl, lenN⟩ rfl rfl rfl rfl rfl rfl rfl hkeep S pre0
theorem enterG {w : World} {n : Nat} {f : Addr} {args : List D} {os : List AO} {G : Around → List Addr → Prop} {P : D → List AO → Prop} {fd : FuncData} {body : List Stmt} {names : List Str} {oc : Value} (dv : List Value) (dd : List D) (hd : All2 (Rel []) dv dd)
    (ho : (K w.params).lookup f = some ⟨oc, none, .func fd, #[]⟩) (hp : plainFnC fd = true) (hcd : codeIn (K w.params) fd.code fd.qualname = true) (hbody : fd.body = .stmts body) (hn : namesOkC fd names = true)
    (hbind : ∀ (s : Shared) (vals : List Value), (K w.params).In s.heap → vals.length = args.length → BindsTo s fd ⟨vals, []⟩ (names.zip (vals ++ dv)))
    (h : ∀ x : Fx, Entered x w n fd os.length → FrameOf x fd G → ExOk x body (entry fd.scope.names (names.zip (args ++ dd)) os) (retOf os.length P)) : CallOkG w n f args os G P := by
  intro A s hb news vals R rm hG hB O ra hg post
  refine enter0 (G := G) dv dd hd ho hp hcd hbody hn hbind rm hG hB O ra hg ?_
  intro x h₁ tk m news₁ ex e1 e1' e2 e3 e4 e5 e6 hkeep S pre0
  have hx := ex.ok
  have lenN : (ads news).length = os.length := by rw [← e2]; exact ex.a0
  have E := h x ex ⟨⟨A, e3, by rw [e2]; exact hG⟩, e4⟩
  refine E _ _ _ _ news₁ S (by rw [e2]; exact pre0) fun fl s' m' news' fl' σ' p S' pre r => ?_
  rw [e2] at pre
  have hL : ∃ oL, s'.heap.get? s.heap.objs.size = some oL := by rw [← e5]; obtain ⟨o, _, _, e, _⟩ := S'.F.ns; exact ⟨o, e⟩
  obtain ⟨oL, hL⟩ := hL
  have fin : ∀ ids d v, prefN os.length 0 ids = true → closedN ids [d] σ'.objs = true → P (d.ren (pos ids)) (subO σ'.objs ids) → Rel (ads news') v d → R (.ok (.ret v)) s' := fun ids d v g1 hc g3 g4 => by
    obtain ⟨hc, h4⟩ := Bool.and_eq_true_iff.mp hc
    obtain ⟨hc, h3⟩ := Bool.and_eq_true_iff.mp hc
    obtain ⟨h1, h2⟩ := Bool.and_eq_true_iff.mp hc
    have nd := nodupN_iff h1
    have hl : ∀ i ∈ ids, i < σ'.objs.length := fun i hi => Nat.le_of_ble_eq_true (allN_iff h2 i hi)
    have hcl : ∀ i ∈ ids, ∀ j ∈ (σ'.objs.getD i .deq).refs, j ∈ ids := fun i hi j hj => memN_iff.mp (allN_iff (allN_iff h3 i hi) j hj)
    have har : ∀ j ∈ [d].flatMap D.refs, j ∈ ids := fun j hj => memN_iff.mp (allN_iff h4 j hj)
    have O2 := call_own hx S' nd hl hcl
    have O' : Own hb s'.heap (subN news' ids) (subO σ'.objs ids) := ⟨by rw [← e1]; exact S'.F.keep, Nat.le_of_lt (Nat.lt_of_le_of_lt O.size (Heap.lt_size hL)), fun p hp => ⟨(S'.N p (mem_sub S' hl hp)).1, by rw [← e1]; exact (S'.N p (mem_sub S' hl hp)).2.2⟩, O2.nd, O2.obj⟩
    exact post v s' (subN news' ids) _ _ g3 O' (prefN_ads g1 lenN pre) (g4.ren fun j hj a ha => ads_sub S' hl (har j (List.mem_flatMap.mpr ⟨d, .head _, hj⟩)) ha) S'.gens (S'.os.trans e1')
  cases fl' with
  | next =>
    obtain ⟨ids, g1, g2, g3⟩ := p
    cases fl <;> first | exact fin ids .none .none g1 g2 g3 rfl | exact r.elim
  | ret d =>
    obtain ⟨ids, g1, g2, g3⟩ := p
    cases fl <;> first | exact fin ids d _ g1 g2 g3 r | exact r.elim
  | brk => exact p.elim
  | cont => exact p.elim
theorem enterC {w : World} {n : Nat} {f : Addr} {args : List D} {os : List AO} {P : D → List AO → Prop} {fd : FuncData} {body : List Stmt} {names : List Str} {oc : Value} (dv : List Value) (dd : List D) (hd : All2 (Rel []) dv dd)
    (ho : (K w.params).lookup f = some ⟨oc, none, .func fd, #[]⟩) (hp : plainFnC fd = true) (hcd : codeIn (K w.params) fd.code fd.qualname = true) (hbody : fd.body = .stmts body) (hn : namesOkC fd names = true)
    (hbind : ∀ (s : Shared) (vals : List Value), (K w.params).In s.heap → vals.length = args.length → BindsTo s fd ⟨vals, []⟩ (names.zip (vals ++ dv)))
    (h : ∀ x : Fx, Entered x w n fd os.length → ExOk x body (entry fd.scope.names (names.zip (args ++ dd)) os) (retOf os.length P)) : CallOk w n f args os P :=
  fun A s hb news vals R rm hB O ra hg post => enterG (G := fun _ _ => True) dv dd hd ho hp hcd hbody hn hbind (fun x hx _ => h x hx) A s hb news vals R rm trivial hB O ra hg post
section
variable {x : Fx}
theorem ExOk.returnEv {e : Expr} {p : Pos} {σ : St} {P : Fl → St → Prop} (h : EvOk x e σ fun d σ' => P (.ret d) σ') : ExOk x [.Return (some e) p] σ P := by
  intro s Q E m news S a0 post
  refine wpAny_execs_cons (wpAny_Return_some ?_)
  exact h s _ E m news S fun v s' m' n' d σ' p S' pre r => post _ _ m' n' (.ret d) _ p S' (a0.trans pre) r
theorem ExOk.assignEv {c : Cfg} (hx : x.Ok) (hN : x.env.scope.names = c.N) {y : Str} {py p : Pos} {e : Expr} {σ : St} {P : Fl → St → Prop} (hsw : swapsWith e (some (.Name y py)) p.line x.env = pure false) (h : EvOk x e σ fun d σ' => ok x (storeM c.N y d σ') fun _ σ'' => P .next σ'') : ExOk x [.Assign [.Name y py] e p] σ P := by
  intro s Q E m news S a0 post
  refine wpAny_execs_cons (wpAny_Assign_Name ?_ hsw)
  refine h s _ E m news S fun v s' m' n' d σ' p S' pre r => ?_
  refine storeM_sound hx hN r _ p s' _ E m' S' fun _ s2 m2 n2 _ σ2 p2 S2 pre2 _ => ?_
  exact wpAny_execs_nil (post _ _ m2 n2 .next _ p2 S2 ((a0.trans pre).trans pre2) trivial)
end
end
end Mine
namespace Mine
noncomputable section
noncomputable def guide {α : Type} : List Bool → T α → T α
  | _, .ret a σ => .ret a σ
  | ws, .br b t e => match ws with
    | [] => .br b t e
    | true :: r => .need (b = true) (guide r t)
    | false :: r => .need (b = false) (guide r e)
  | ws, .need p t => .need p (guide ws t)
  | ws, .call f a o d o' t => .call f a o d o' (guide ws t)
  | ws, .ext e σ d σ' t => .ext e σ d σ' (guide ws t)
  | _, .bad => .bad
theorem guide_ok {α : Type} {x : Fx} {P : α → St → Prop} : ∀ {t : T α} {ws : List Bool}, ok x (guide ws t) P → ok x t P
  | .ret _ _, _, h => h
  | .br b t e, [], h => h
  | .br b t e, true :: r, h => ⟨fun _ => guide_ok h.2, fun q => by have := h.1; rw [this] at q; cases q⟩
  | .br b t e, false :: r, h => ⟨fun q => (by have := h.1; rw [this] at q; cases q), fun _ => guide_ok h.2⟩
  | .need p t, ws, h => ⟨h.1, guide_ok h.2⟩
  | .call f a o d o' t, ws, h => ⟨h.1, guide_ok h.2⟩
  | .ext e σ d σ' t, ws, h => ⟨h.1, guide_ok h.2⟩
  | .bad, _, h => h
theorem ok_path {α : Type} {x : Fx} {t t' : T α} {ws : List Bool} {P : α → St → Prop} (e : guide ws t = t') (h : ok x t' P) : ok x t P := guide_ok (e ▸ h)
end
end Mine
namespace Mine
noncomputable section
noncomputable abbrev F53 : FuncData := fd (topSt 4) "_index" .none (.str (S "io") 286) (.ref 52)
noncomputable abbrev F357 : FuncData := fd (clsSt 10 1) "StringIO.__init__" (.ref 350) (.str (S "io") 286) (.ref 356)
noncomputable abbrev F364 : FuncData := fd (clsSt 10 2) "StringIO.__translated" .none (.str (S "io") 286) (.ref 363)
noncomputable abbrev F371 : FuncData := fd (clsSt 10 3) "StringIO.__check" .none (.str (S "io") 286) (.ref 370)
noncomputable abbrev F533 : FuncData := fd (clsSt 10 25) "StringIO.read" (.ref 526) (.str (S "io") 286) (.ref 532)
noncomputable abbrev F646 : FuncData := fd (clsSt 19 0) "shlex.__init__" (.ref 639) (.str (S "cpy313.shlex") 1001) (.ref 645)
noncomputable abbrev F653 : FuncData := fd (clsSt 19 1) "shlex.punctuation_chars" .none (.str (S "cpy313.shlex") 1001) (.ref 652)
noncomputable abbrev F683 : FuncData := fd (clsSt 19 5) "shlex.get_token" .none (.str (S "cpy313.shlex") 1001) (.ref 682)
noncomputable abbrev F690 : FuncData := fd (clsSt 19 6) "shlex.read_token" .none (.str (S "cpy313.shlex") 1001) (.ref 689)
noncomputable abbrev F733 : FuncData := fd (topSt 21) "heappush" .none (.str (S "cpy313.heapq") 1142) (.ref 732)
noncomputable abbrev F740 : FuncData := fd (topSt 22) "heappop" .none (.str (S "cpy313.heapq") 1142) (.ref 739)
noncomputable abbrev F747 : FuncData := fd (topSt 23) "heapreplace" .none (.str (S "cpy313.heapq") 1142) (.ref 746)
noncomputable abbrev F754 : FuncData := fd (topSt 24) "heappushpop" .none (.str (S "cpy313.heapq") 1142) (.ref 753)
noncomputable abbrev F761 : FuncData := fd (topSt 25) "_siftdown" .none (.str (S "cpy313.heapq") 1142) (.ref 760)
noncomputable abbrev F768 : FuncData := fd (topSt 26) "_siftup" .none (.str (S "cpy313.heapq") 1142) (.ref 767)
noncomputable abbrev F775 : FuncData := fd (topSt 28) "Int2AP" .none (.str (S "cpy313.imaplib") 1203) (.ref 774)
noncomputable abbrev F780 : FuncData := fd (topSt 30) "_law_roles" .none (.str (S "law_op0228_01") 1215) (.ref 779)
noncomputable abbrev F787 : FuncData := fd (topSt 31) "_law_read" .none (.str (S "law_op0228_01") 1215) (.ref 786)
noncomputable abbrev F794 : FuncData := fd (topSt 32) "_law_inside" .none (.str (S "law_op0228_01") 1215) (.ref 793)
noncomputable abbrev F799 : FuncData := fd (topSt 33) "_law_spelled" .none (.str (S "law_op0228_01") 1215) (.ref 798)
noncomputable abbrev F804 : FuncData := fd (topSt 34) "_law_laid" .none (.str (S "law_op0228_01") 1215) (.ref 803)
noncomputable abbrev F809 : FuncData := fd (topSt 35) "_law_heard" .none (.str (S "law_op0228_01") 1215) (.ref 808)
noncomputable abbrev F816 : FuncData := fd (topSt 36) "_law_called" .none (.str (S "law_op0228_01") 1215) (.ref 815)
noncomputable abbrev F823 : FuncData := fd (topSt 37) "_law_plain" .none (.str (S "law_op0228_01") 1215) (.ref 822)
noncomputable abbrev F828 : FuncData := fd (topSt 38) "_law_right" .none (.str (S "law_op0228_01") 1215) (.ref 827)
noncomputable abbrev F835 : FuncData := fd (topSt 39) "_law_run" .none (.str (S "law_op0228_01") 1215) (.ref 834)
noncomputable abbrev F842 : FuncData := fd (topSt 40) "law" .none (.str (S "law_op0228_01") 1215) (.ref 841)
noncomputable def st1 (b : List Stmt) (i : Nat) : Stmt := b.getD i default
noncomputable def spSd : Specs := fun a args os => match Nat.beq a 761, args, os with
  | true, [.obj 0, .int s, .int j], [.ints xs] => .need (s = 0 ∧ 0 ≤ j ∧ j < xs.length ∧ xs.length ≤ sizeLine) (.done .none [.ints (sd j.toNat xs j.toNat (xs.getD j.toNat 0))])
  | _, _, _ => .bad
noncomputable abbrev B26 : List Stmt := bodyOf (topSt 26)
noncomputable def upSt (xs : List Int) (e p x c : Int) : St := ⟨[(S "heap", .obj 0), (S "pos", .int p), (S "endpos", .int e), (S "startpos", .int 0), (S "newitem", .int x), (S "childpos", .int c)], [], [.ints xs]⟩
noncomputable def su : Nat → List Int → Nat → List Int × Nat
  | 0, xs, p => (xs, p)
  | n + 1, xs, p => if 2 * p + 1 < xs.length then (if 2 * p + 2 < xs.length ∧ ¬ xs.getD (2 * p + 1) 0 < xs.getD (2 * p + 2) 0 then su n (xs.set p (xs.getD (2 * p + 2) 0)) (2 * p + 2) else su n (xs.set p (xs.getD (2 * p + 1) 0)) (2 * p + 1)) else (xs, p)
theorem su_succ (n : Nat) (xs : List Int) (p : Nat) : su (n + 1) xs p = if 2 * p + 1 < xs.length then (if 2 * p + 2 < xs.length ∧ ¬ xs.getD (2 * p + 1) 0 < xs.getD (2 * p + 2) 0 then su n (xs.set p (xs.getD (2 * p + 2) 0)) (2 * p + 2) else su n (xs.set p (xs.getD (2 * p + 1) 0)) (2 * p + 1)) else (xs, p) := rfl
noncomputable def sup (xs : List Int) : List Int := sd (su xs.length xs 0).2 ((su xs.length xs 0).1.set (su xs.length xs 0).2 (xs.getD 0 0)) (su xs.length xs 0).2 (((su xs.length xs 0).1.set (su xs.length xs 0).2 (xs.getD 0 0)).getD (su xs.length xs 0).2 0)
theorem mul2 (c : Int) : IntMulOk 2 c := .of_left (by decide)
theorem su_ok (w : World) (n : Nat) (xs : List Int) (h1 : 0 < xs.length) (h3 : xs.length ≤ sizeLine) : CallOk w (n + 1) 768 [.obj 0, .int 0] [.ints xs] fun d o => d = .none ∧ o = [.ints (sup xs)] := by
  refine enterC (oc := .type "function") (fd := F768) (body := B26.take 4 ++ ([st1 B26 4] ++ B26.drop 5)) (names := [S "heap", S "pos"]) [] [] .nil (by kernel_rfl!) (by kernel_rfl!) (by kernel_rfl!) (by kernel_rfl!) (by kernel_rfl!) (fun s vals _ h => match vals, h with | [a, b], _ => .of_eq (by kernel_rfl!)) fun x hx => ?_
  have hN : x.env.scope.names = (cfg spSd (topSt 26)).N := by rw [hx.sc]; kernel_rfl!
  refine ExOk.app (ExOk.tree (c := cfg spSd (topSt 26)) hx.ok hN (n := 20) (ok_eq (t' := .need (xs.length ≤ sizeLine) ( .need ((0 : Int) ≤ (0 : Int) ∧ (0 : Int) < (↑xs.length : Int) ∧ xs.length ≤ sizeLine) ( .need (IntMulOk (2 : Int) (0 : Int)) ( .ret .next ⟨[(S "heap", (.obj 0)), (S "pos", (.int ((0 : Int)))), (S "endpos", (.int ((↑xs.length : Int)))), (S "startpos", (.int ((0 : Int)))), (S "newitem", (.int (xs.getD (Int.toNat (0 : Int)) (0 : Int)))), (S "childpos", (.int ((2 : Int) * (0 : Int) + (1 : Int))))], [], [(.ints (xs))]⟩)))) (by kernel_rfl!) ⟨h3, ⟨Int.le_refl _, by omega, h3⟩, mul2 _, ?_⟩))
  refine ExOk.app ?_
  refine ExOk.while (c := cfg spSd (topSt 26)) (test := wTest (st1 B26 4)) (body := wBody (st1 B26 4)) (pos := wPos (st1 B26 4)) hx.ok hN hx.a0 (fun m σ => ∃ (ys : List Int) (p : Nat), σ = upSt ys xs.length p (xs.getD 0 0) (2 * (p : Int) + 1) ∧ ys.length = xs.length ∧ p < xs.length ∧ m = xs.length - p ∧ ∃ f, xs.length ≤ p + f ∧ su f ys p = su xs.length xs 0) ?_ (n := xs.length) ?_
  · rintro m σ ⟨ys, p, rfl, hl, hp, rfl, f, hf, e⟩
    obtain ⟨f, rfl⟩ : ∃ k, f = k + 1 := ⟨f - 1, by omega⟩
    rw [su_succ] at e
    have h3' : ys.length ≤ sizeLine := by rw [hl]; exact h3
    generalize hc : 2 * (p : Int) + 1 = c
    refine ok_eq (t' := .ret (.dyn (decide (c < xs.length))) (upSt ys xs.length p (xs.getD 0 0) c)) (by kernel_rfl!) ?_
    show if decide (c < (xs.length : Int)) = true then _ else _
    split
    · rename_i hcl
      have hcl := of_decide_eq_true hcl
      have e1 : c.toNat = 2 * p + 1 := by omega
      have e2 : (c + 1).toNat = 2 * p + 2 := by omega
      rw [if_pos (by omega)] at e
      refine ExOk.tree (c := cfg spSd (topSt 26)) hx.ok hN (n := 20) (ok_eq (t' := .br (decide (c + (1 : Int) < (↑xs.length : Int))) ( .need ((0 : Int) ≤ c ∧ c < (↑ys.length : Int) ∧ ys.length ≤ sizeLine) ( .need ((0 : Int) ≤ c + (1 : Int) ∧ c + (1 : Int) < (↑ys.length : Int) ∧ ys.length ≤ sizeLine) ( .br (!decide (ys.getD c.toNat (0 : Int) < ys.getD (c + (1 : Int)).toNat (0 : Int))) ( .need ((0 : Int) ≤ c + (1 : Int) ∧ c + (1 : Int) < (↑ys.length : Int) ∧ ys.length ≤ sizeLine) ( .need ((0 : Int) ≤ (↑p : Int) ∧ (↑p : Int) < (↑ys.length : Int) ∧ ys.length ≤ sizeLine) ( .need (IntMulOk (2 : Int) (c + (1 : Int))) ( .ret .next ⟨[(S "heap", (.obj 0)), (S "pos", (.int (c + (1 : Int)))), (S "endpos", (.int ((↑xs.length : Int)))), (S "startpos", (.int ((0 : Int)))), (S "newitem", (.int (xs.getD (0 : Nat) (0 : Int)))), (S "childpos", (.int ((2 : Int) * (c + (1 : Int)) + (1 : Int)))), (S "rightpos", (.int (c + (1 : Int))))], [], [(.ints (ys.set (↑p : Int).toNat (ys.getD (c + (1 : Int)).toNat (0 : Int))))]⟩)))) ( .need ((0 : Int) ≤ c ∧ c < (↑ys.length : Int) ∧ ys.length ≤ sizeLine) ( .need ((0 : Int) ≤ (↑p : Int) ∧ (↑p : Int) < (↑ys.length : Int) ∧ ys.length ≤ sizeLine) ( .need (IntMulOk (2 : Int) c) ( .ret .next ⟨[(S "heap", (.obj 0)), (S "pos", (.int (c))), (S "endpos", (.int ((↑xs.length : Int)))), (S "startpos", (.int ((0 : Int)))), (S "newitem", (.int (xs.getD (0 : Nat) (0 : Int)))), (S "childpos", (.int ((2 : Int) * c + (1 : Int)))), (S "rightpos", (.int (c + (1 : Int))))], [], [(.ints (ys.set (↑p : Int).toNat (ys.getD c.toNat (0 : Int))))]⟩))))))) ( .need ((0 : Int) ≤ c ∧ c < (↑ys.length : Int) ∧ ys.length ≤ sizeLine) ( .need ((0 : Int) ≤ (↑p : Int) ∧ (↑p : Int) < (↑ys.length : Int) ∧ ys.length ≤ sizeLine) ( .need (IntMulOk (2 : Int) c) ( .ret .next ⟨[(S "heap", (.obj 0)), (S "pos", (.int (c))), (S "endpos", (.int ((↑xs.length : Int)))), (S "startpos", (.int ((0 : Int)))), (S "newitem", (.int (xs.getD (0 : Nat) (0 : Int)))), (S "childpos", (.int ((2 : Int) * c + (1 : Int)))), (S "rightpos", (.int (c + (1 : Int))))], [], [(.ints (ys.set (↑p : Int).toNat (ys.getD c.toNat (0 : Int))))]⟩))))) (by kernel_rfl!) ?_)
      rw [e1, e2, Int.toNat_natCast]
      refine ⟨fun hr => ⟨⟨by omega, by omega, h3'⟩, ⟨by omega, by have := of_decide_eq_true hr; omega, h3'⟩, fun hs => ⟨⟨by omega, by have := of_decide_eq_true hr; omega, h3'⟩, ⟨by omega, by omega, h3'⟩, mul2 _, ?_⟩, fun hs => ⟨⟨by omega, by omega, h3'⟩, ⟨by omega, by omega, h3'⟩, mul2 _, ?_⟩⟩,
        fun hr => ⟨⟨by omega, by omega, h3'⟩, ⟨by omega, by omega, h3'⟩, mul2 _, ?_⟩⟩
      · have hr := of_decide_eq_true hr
        have hs : ¬ ys.getD (2 * p + 1) 0 < ys.getD (2 * p + 2) 0 := by simpa using hs
        refine ⟨xs.length - (2 * p + 2), by omega, [0], 6, by rfl, ys.set p (ys.getD (2 * p + 2) 0), 2 * p + 2, ?_, by rw [List.length_set]; exact hl, by omega, rfl, f, by omega, ?_⟩
        · have : c + 1 = ((2 * p + 2 : Nat) : Int) := by omega
          rw [this]; rfl
        · rw [if_pos ⟨by omega, hs⟩] at e; exact e
      · have hr := of_decide_eq_true hr
        have hs : ys.getD (2 * p + 1) 0 < ys.getD (2 * p + 2) 0 := by simpa using hs
        refine ⟨xs.length - (2 * p + 1), by omega, [0], 6, by rfl, ys.set p (ys.getD (2 * p + 1) 0), 2 * p + 1, ?_, by rw [List.length_set]; exact hl, by omega, rfl, f, by omega, ?_⟩
        · have : c = ((2 * p + 1 : Nat) : Int) := by omega
          rw [this]; rfl
        · rw [if_neg (fun q => q.2 hs)] at e; exact e
      · have hr := of_decide_eq_false hr
        refine ⟨xs.length - (2 * p + 1), by omega, [0], 6, by rfl, ys.set p (ys.getD (2 * p + 1) 0), 2 * p + 1, ?_, by rw [List.length_set]; exact hl, by omega, rfl, f, by omega, ?_⟩
        · have : c = ((2 * p + 1 : Nat) : Int) := by omega
          rw [this]; rfl
        · rw [if_neg (fun q => hr (by omega))] at e; exact e
    · rename_i hcl
      have hcl : ¬ c < (xs.length : Int) := fun q => hcl (decide_eq_true q)
      rw [if_neg (by omega)] at e
      have hp' : p < (ys.set p (xs.getD 0 0)).length := by rw [List.length_set, hl]; exact hp
      refine ExOk.tree (c := cfg spSd (topSt 26)) hx.ok hN (n := 20) (ok_eq (t' := .need ((0 : Int) ≤ (↑p : Int) ∧ (↑p : Int) < (↑ys.length : Int) ∧ ys.length ≤ sizeLine) ( .need ((0 : Int) = (0 : Int) ∧   (0 : Int) ≤ (↑p : Int) ∧     (↑p : Int) < (↑(ys.set (↑p : Int).toNat (xs.getD (0 : Nat) (0 : Int))).length : Int) ∧       (ys.set (↑p : Int).toNat (xs.getD (0 : Nat) (0 : Int))).length ≤ sizeLine) ( .call 761 [(.obj 0), (.int ((0 : Int))), (.int ((↑p : Int)))] [(.ints (ys.set (↑p : Int).toNat (xs.getD (0 : Nat) (0 : Int))))] .none [(.ints (sd (↑p : Int).toNat (ys.set (↑p : Int).toNat (xs.getD (0 : Nat) (0 : Int))) (↑p : Int).toNat   ((ys.set (↑p : Int).toNat (xs.getD (0 : Nat) (0 : Int))).getD (↑p : Int).toNat (0 : Int))))] ( .ret .next ⟨[(S "heap", (.obj 0)), (S "pos", (.int ((↑p : Int)))), (S "endpos", (.int ((↑xs.length : Int)))), (S "startpos", (.int ((0 : Int)))), (S "newitem", (.int (xs.getD (0 : Nat) (0 : Int)))), (S "childpos", (.int (c)))], [], [(.ints (sd (↑p : Int).toNat (ys.set (↑p : Int).toNat (xs.getD (0 : Nat) (0 : Int))) (↑p : Int).toNat   ((ys.set (↑p : Int).toNat (xs.getD (0 : Nat) (0 : Int))).getD (↑p : Int).toNat (0 : Int))))]⟩)))) (by kernel_rfl!) ?_)
      rw [Int.toNat_natCast]
      refine ⟨⟨by omega, by omega, h3'⟩, ⟨rfl, by omega, by omega, by rw [List.length_set]; exact h3'⟩, ⟨n, hx.n, ?_⟩, ?_⟩
      · have := sd_ok x.w n (ys.set p (xs.getD 0 0)) p (by omega) (by omega) (by rw [List.length_set]; exact h3')
        rw [Int.toNat_natCast] at this
        exact this
      · refine ⟨[0], by rfl, by rfl, rfl, ?_⟩
        show [AO.ints _] = [AO.ints (sup xs)]
        unfold sup
        rw [← e]
  · exact ⟨[0], 6, by rfl, xs, 0, by rfl, rfl, h1, rfl, xs.length, by omega, rfl⟩
end
end Mine
namespace Mine
noncomputable section
noncomputable def spHp : Specs := fun a args os => match Nat.beq a 768, args, os with
  | true, [.obj 0, .int s], [.ints xs] => .need (s = 0 ∧ 0 < xs.length ∧ xs.length ≤ sizeLine) (.done .none [.ints (sup xs)])
  | _, _, _ => spSd a args os
noncomputable def hPush (xs : List Int) (v : Int) : List Int := sd xs.length (xs ++ [v]) xs.length ((xs ++ [v]).getD xs.length 0)
noncomputable def hPop (xs : List Int) : Int × List Int := if xs.dropLast = [] then (xs.getLastD 0, []) else (xs.dropLast.getD 0 0, sup (xs.dropLast.set 0 (xs.getLastD 0)))
noncomputable def hRep (xs : List Int) (v : Int) : Int × List Int := (xs.getD 0 0, sup (xs.set 0 v))
noncomputable def hPP (xs : List Int) (v : Int) : Int × List Int := if xs ≠ [] ∧ xs.getD 0 0 < v then (xs.getD 0 0, sup (xs.set 0 v)) else (v, xs)
theorem hPush_ok (w : World) (n : Nat) (xs : List Int) (v : Int) (h3 : xs.length < sizeLine) : CallOk w (n + 1) 733 [.obj 0, .int v] [.ints xs] fun d o => d = .none ∧ o = [.ints (hPush xs v)] := by
  refine enterC (oc := .type "function") (fd := F733) (body := bodyOf (topSt 21)) (names := [S "heap", S "item"]) [] [] .nil (by kernel_rfl!) (by kernel_rfl!) (by kernel_rfl!) (by kernel_rfl!) (by kernel_rfl!) (fun s vals _ h => match vals, h with | [a, b], _ => .of_eq (by kernel_rfl!)) fun x hx => ?_
  have hN : x.env.scope.names = (cfg spHp (topSt 21)).N := by rw [hx.sc]; kernel_rfl!
  refine ExOk.tree (c := cfg spHp (topSt 21)) hx.ok hN (n := 20) (ok_eq (t' := .need (xs.length ≤ sizeLine) ( .need ((xs ++ [v]).length ≤ sizeLine) ( .need ((0 : Int) = (0 : Int) ∧   (0 : Int) ≤ (↑(xs ++ [v]).length : Int) - (1 : Int) ∧     (↑(xs ++ [v]).length : Int) - (1 : Int) < (↑(xs ++ [v]).length : Int) ∧ (xs ++ [v]).length ≤ sizeLine) ( .call 761 [(.obj 0), (.int ((0 : Int))), (.int ((↑(xs ++ [v]).length : Int) - (1 : Int)))] [(.ints (xs ++ [v]))] .none [(.ints (sd ((↑(xs ++ [v]).length : Int) - (1 : Int)).toNat (xs ++ [v]) ((↑(xs ++ [v]).length : Int) - (1 : Int)).toNat   ((xs ++ [v]).getD ((↑(xs ++ [v]).length : Int) - (1 : Int)).toNat (0 : Int))))] ( .ret .next ⟨[(S "heap", (.obj 0)), (S "item", (.int (v)))], [], [(.ints (sd ((↑(xs ++ [v]).length : Int) - (1 : Int)).toNat (xs ++ [v]) ((↑(xs ++ [v]).length : Int) - (1 : Int)).toNat   ((xs ++ [v]).getD ((↑(xs ++ [v]).length : Int) - (1 : Int)).toNat (0 : Int))))]⟩))))) (by kernel_rfl!) ?_)
  have e : ((↑(xs ++ [v]).length : Int) - 1).toNat = xs.length := by simp
  have hl : (xs ++ [v]).length = xs.length + 1 := by simp
  refine ⟨by omega, by rw [hl]; exact h3, ⟨rfl, by omega, by omega, by rw [hl]; exact h3⟩, ⟨n, hx.n, sd_ok x.w n _ _ (by omega) (by omega) (by rw [hl]; exact h3)⟩, [0], by rfl, by rfl, rfl, ?_⟩
  rw [e]; rfl
theorem hPop_ok (w : World) (n : Nat) (xs : List Int) (h1 : 0 < xs.length) (h3 : xs.length ≤ sizeLine) : CallOk w (n + 2) 740 [.obj 0] [.ints xs] fun d o => d = .int (hPop xs).1 ∧ o = [.ints (hPop xs).2] := by
  refine enterC (oc := .type "function") (fd := F740) (body := bodyOf (topSt 22)) (names := [S "heap"]) [] [] .nil (by kernel_rfl!) (by kernel_rfl!) (by kernel_rfl!) (by kernel_rfl!) (by kernel_rfl!) (fun s vals _ h => match vals, h with | [a], _ => .of_eq (by kernel_rfl!)) fun x hx => ?_
  have hN : x.env.scope.names = (cfg spHp (topSt 22)).N := by rw [hx.sc]; kernel_rfl!
  refine ExOk.tree (c := cfg spHp (topSt 22)) hx.ok hN (n := 20) (ok_eq (t' := .need ((0 : Nat) < xs.length ∧ xs.length ≤ sizeLine) ( .need (xs.dropLast.length ≤ sizeLine) ( .br (!decide (xs.dropLast = [])) ( .need ((0 : Int) ≤ (0 : Int) ∧ (0 : Int) < (↑xs.dropLast.length : Int) ∧ xs.dropLast.length ≤ sizeLine) ( .need ((0 : Int) ≤ (0 : Int) ∧ (0 : Int) < (↑xs.dropLast.length : Int) ∧ xs.dropLast.length ≤ sizeLine) ( .need ((0 : Int) = (0 : Int) ∧   (0 : Nat) < (xs.dropLast.set (Int.toNat (0 : Int)) (xs.getLastD (0 : Int))).length ∧     (xs.dropLast.set (Int.toNat (0 : Int)) (xs.getLastD (0 : Int))).length ≤ sizeLine) ( .call 768 [(.obj 0), (.int ((0 : Int)))] [(.ints (xs.dropLast.set (Int.toNat (0 : Int)) (xs.getLastD (0 : Int))))] .none [(.ints (sup (xs.dropLast.set (Int.toNat (0 : Int)) (xs.getLastD (0 : Int)))))] ( .ret (.ret (.int (xs.dropLast.getD (Int.toNat (0 : Int)) (0 : Int)))) ⟨[(S "heap", (.obj 0)), (S "lastelt", (.int (xs.getLastD (0 : Int)))), (S "returnitem", (.int (xs.dropLast.getD (Int.toNat (0 : Int)) (0 : Int))))], [], [(.ints (sup (xs.dropLast.set (Int.toNat (0 : Int)) (xs.getLastD (0 : Int)))))]⟩))))) ( .ret (.ret (.int (xs.getLastD (0 : Int)))) ⟨[(S "heap", (.obj 0)), (S "lastelt", (.int (xs.getLastD (0 : Int))))], [], [(.ints (xs.dropLast))]⟩)))) (by kernel_rfl!) ?_)
  have hl : xs.dropLast.length = xs.length - 1 := by simp
  refine ⟨⟨h1, h3⟩, by rw [hl]; omega, fun hb => ?_, fun hb => ?_⟩
  · have hb : xs.dropLast ≠ [] := by simpa using hb
    have hp : 0 < xs.dropLast.length := List.length_pos_iff.mpr hb
    refine ⟨⟨by omega, by omega, by omega⟩, ⟨by omega, by omega, by omega⟩, ⟨rfl, by rw [List.length_set]; exact hp, by rw [List.length_set]; omega⟩, ⟨n + 1, hx.n, su_ok x.w n _ (by rw [List.length_set]; exact hp) (by rw [List.length_set]; omega)⟩, [0], by rfl, by rfl, ?_, ?_⟩
    · unfold hPop; rw [if_neg hb]; rfl
    · unfold hPop; rw [if_neg hb]; rfl
  · have hb : xs.dropLast = [] := by simpa using hb
    refine ⟨[0], by rfl, by rfl, ?_, ?_⟩
    · unfold hPop; rw [if_pos hb]; rfl
    · unfold hPop; rw [if_pos hb, hb]; rfl
theorem hRep_ok (w : World) (n : Nat) (xs : List Int) (v : Int) (h1 : 0 < xs.length) (h3 : xs.length ≤ sizeLine) : CallOk w (n + 2) 747 [.obj 0, .int v] [.ints xs] fun d o => d = .int (hRep xs v).1 ∧ o = [.ints (hRep xs v).2] := by
  refine enterC (oc := .type "function") (fd := F747) (body := bodyOf (topSt 23)) (names := [S "heap", S "item"]) [] [] .nil (by kernel_rfl!) (by kernel_rfl!) (by kernel_rfl!) (by kernel_rfl!) (by kernel_rfl!) (fun s vals _ h => match vals, h with | [a, b], _ => .of_eq (by kernel_rfl!)) fun x hx => ?_
  have hN : x.env.scope.names = (cfg spHp (topSt 23)).N := by rw [hx.sc]; kernel_rfl!
  refine ExOk.tree (c := cfg spHp (topSt 23)) hx.ok hN (n := 20) (ok_eq (t' := .need ((0 : Int) ≤ (0 : Int) ∧ (0 : Int) < (↑xs.length : Int) ∧ xs.length ≤ sizeLine) ( .need ((0 : Int) ≤ (0 : Int) ∧ (0 : Int) < (↑xs.length : Int) ∧ xs.length ≤ sizeLine) ( .need ((0 : Int) = (0 : Int) ∧   (0 : Nat) < (xs.set (Int.toNat (0 : Int)) v).length ∧ (xs.set (Int.toNat (0 : Int)) v).length ≤ sizeLine) ( .call 768 [(.obj 0), (.int ((0 : Int)))] [(.ints (xs.set (Int.toNat (0 : Int)) v))] .none [(.ints (sup (xs.set (Int.toNat (0 : Int)) v)))] ( .ret (.ret (.int (xs.getD (Int.toNat (0 : Int)) (0 : Int)))) ⟨[(S "heap", (.obj 0)), (S "item", (.int (v))), (S "returnitem", (.int (xs.getD (Int.toNat (0 : Int)) (0 : Int))))], [], [(.ints (sup (xs.set (Int.toNat (0 : Int)) v)))]⟩))))) (by kernel_rfl!) ?_)
  exact ⟨⟨by omega, by omega, h3⟩, ⟨by omega, by omega, h3⟩, ⟨rfl, by rw [List.length_set]; exact h1, by rw [List.length_set]; exact h3⟩, ⟨n + 1, hx.n, su_ok x.w n _ (by rw [List.length_set]; exact h1) (by rw [List.length_set]; exact h3)⟩, [0], by rfl, by rfl, rfl, rfl⟩
theorem hPP_ok (w : World) (n : Nat) (xs : List Int) (v : Int) (h3 : xs.length ≤ sizeLine) : CallOk w (n + 2) 754 [.obj 0, .int v] [.ints xs] fun d o => d = .int (hPP xs v).1 ∧ o = [.ints (hPP xs v).2] := by
  refine enterC (oc := .type "function") (fd := F754) (body := bodyOf (topSt 24)) (names := [S "heap", S "item"]) [] [] .nil (by kernel_rfl!) (by kernel_rfl!) (by kernel_rfl!) (by kernel_rfl!) (by kernel_rfl!) (fun s vals _ h => match vals, h with | [a, b], _ => .of_eq (by kernel_rfl!)) fun x hx => ?_
  have hN : x.env.scope.names = (cfg spHp (topSt 24)).N := by rw [hx.sc]; kernel_rfl!
  refine ExOk.tree (c := cfg spHp (topSt 24)) hx.ok hN (n := 20) (ok_eq (t' := .need (xs.length ≤ sizeLine) ( .br (!decide (xs = [])) ( .need ((0 : Int) ≤ (0 : Int) ∧ (0 : Int) < (↑xs.length : Int) ∧ xs.length ≤ sizeLine) ( .br (decide (xs.getD (Int.toNat (0 : Int)) (0 : Int) < v)) ( .need ((0 : Int) ≤ (0 : Int) ∧ (0 : Int) < (↑xs.length : Int) ∧ xs.length ≤ sizeLine) ( .need ([D.int (xs.getD (Int.toNat (0 : Int)) (0 : Int)), (S "item", D.int v).snd].length ≤ sizeLine) ( .need ((0 : Int) ≤ (0 : Int) ∧ (0 : Int) < (↑xs.length : Int) ∧ xs.length ≤ sizeLine) ( .need ((0 : Int) = (0 : Int) ∧   (0 : Nat) < (xs.set (Int.toNat (0 : Int)) v).length ∧ (xs.set (Int.toNat (0 : Int)) v).length ≤ sizeLine) ( .call 768 [(.obj 0), (.int ((0 : Int)))] [(.ints (xs.set (Int.toNat (0 : Int)) v))] .none [(.ints (sup (xs.set (Int.toNat (0 : Int)) v)))] ( .ret (.ret (.int (xs.getD (Int.toNat (0 : Int)) (0 : Int)))) ⟨[(S "heap", (.obj 0)), (S "item", (.int (xs.getD (Int.toNat (0 : Int)) (0 : Int))))], [], [(.ints (sup (xs.set (Int.toNat (0 : Int)) v))), (.tup [(.int (xs.getD (Int.toNat (0 : Int)) (0 : Int))), (.int (v))])]⟩)))))) ( .ret (.ret (.int (v))) ⟨[(S "heap", (.obj 0)), (S "item", (.int (v)))], [], [(.ints (xs))]⟩))) ( .ret (.ret (.int (v))) ⟨[(S "heap", (.obj 0)), (S "item", (.int (v)))], [], [(.ints (xs))]⟩))) (by kernel_rfl!) ?_)
  refine ⟨h3, fun hb => ?_, fun hb => ?_⟩
  · have hb : xs ≠ [] := by simpa using hb
    have hp : 0 < xs.length := List.length_pos_iff.mpr hb
    refine ⟨⟨by omega, by omega, h3⟩, fun hc => ?_, fun hc => ?_⟩
    · have hc := of_decide_eq_true hc
      have e : hPP xs v = (xs.getD 0 0, sup (xs.set 0 v)) := if_pos ⟨hb, hc⟩
      refine ⟨⟨by omega, by omega, h3⟩, (by decide : 2 ≤ sizeLine), ⟨by omega, by omega, h3⟩, ⟨rfl, by rw [List.length_set]; exact hp, by rw [List.length_set]; exact h3⟩, ⟨n + 1, hx.n, su_ok x.w n _ (by rw [List.length_set]; exact hp) (by rw [List.length_set]; exact h3)⟩, [0], by rfl, by rfl, ?_, ?_⟩
      · rw [e]; rfl
      · rw [e]; rfl
    · have hc := of_decide_eq_false hc
      have e : hPP xs v = (v, xs) := if_neg fun q => hc q.2
      refine ⟨[0], by rfl, by rfl, ?_, ?_⟩
      · rw [e]; rfl
      · rw [e]; rfl
  · have hb : xs = [] := by simpa using hb
    have e : hPP xs v = (v, xs) := if_neg fun q => q.1 hb
    refine ⟨[0], by rfl, by rfl, ?_, ?_⟩
    · rw [e]; rfl
    · rw [e]; rfl
end
end Mine
namespace Mine
noncomputable section
noncomputable def ap (n : Nat) : List UInt8 := if n = 0 then [] else ap (n / 16) ++ [UInt8.ofNat (65 + n % 16)]
termination_by n
decreasing_by omega
noncomputable def apB : List UInt8 := [65, 66, 67, 68, 69, 70, 71, 72, 73, 74, 75, 76, 77, 78, 79, 80]
theorem apB_cut (m : Nat) (h : m < 16) : cutL apB (some (m : Int)) (some ((m : Int) + 1)) = [UInt8.ofNat (65 + m)] := by
  have : ∀ m : Fin 16, cutL apB (some ((m : Nat) : Int)) (some (((m : Nat) : Int) + 1)) = [UInt8.ofNat (65 + (m : Nat))] := by decide +kernel
  exact this ⟨m, h⟩
noncomputable abbrev B28 : List Stmt := bodyOf (topSt 28)
noncomputable def apSt (n : Int) (v : List UInt8) (os : List AO) : St := ⟨[(S "num", .int n), (S "val", .bytes v), (S "AP", .bytes apB)], [], os⟩
theorem ap_ok (w : World) (n : Nat) (z : Int) (h3 : (ap z.natAbs).length ≤ sizeLine) : CallOk w n 775 [.int z] [] fun d o => d = .bytes (ap z.natAbs) ∧ o = [] := by
  refine enterC (oc := .type "function") (fd := F775) (body := B28.take 3 ++ ([st1 B28 3] ++ B28.drop 4)) (names := [S "num"]) [] [] .nil (by kernel_rfl!) (by kernel_rfl!) (by kernel_rfl!) (by kernel_rfl!) (by kernel_rfl!) (fun s vals _ h => match vals, h with | [a], _ => .of_eq (by kernel_rfl!)) fun x hx => ?_
  have hN : x.env.scope.names = (cfg noSp (topSt 28)).N := by rw [hx.sc]; kernel_rfl!
  refine ExOk.app (ExOk.tree (c := cfg noSp (topSt 28)) hx.ok hN (n := 20) (ok_eq (t' := .ret .next ⟨[(S "num", (.int (if z < (0 : Int) then -z else z))), (S "val", (.bytes ([]))), (S "AP", (.bytes ([(65 : UInt8), (66 : UInt8), (67 : UInt8), (68 : UInt8), (69 : UInt8), (70 : UInt8), (71 : UInt8), (72 : UInt8),   (73 : UInt8), (74 : UInt8), (75 : UInt8), (76 : UInt8), (77 : UInt8), (78 : UInt8), (79 : UInt8), (80 : UInt8)])))], [], []⟩) (by kernel_rfl!) ?_))
  refine ExOk.app ?_
  refine ExOk.while (c := cfg noSp (topSt 28)) (test := wTest (st1 B28 3)) (body := wBody (st1 B28 3)) (pos := wPos (st1 B28 3)) hx.ok hN hx.a0 (fun m σ => ∃ v, σ = apSt m v [] ∧ ap m ++ v = ap z.natAbs) ?_ (n := z.natAbs) ?_
  · rintro m σ ⟨v, rfl, e⟩
    refine ok_eq (t' := .ret (.dyn (!decide ((m : Int) = 0))) (apSt m v [])) (by kernel_rfl!) ?_
    show if (!decide ((m : Int) = 0)) = true then _ else _
    split
    · rename_i hm
      have hm : m ≠ 0 := by simpa using hm
      rw [ap, if_neg hm] at e
      have hlen : v.length + 1 ≤ (ap z.natAbs).length := by rw [← e]; simp; try omega
      have q1 : (m : Int).fdiv 16 = ((m / 16 : Nat) : Int) := by rw [Int.fdiv_eq_ediv_of_nonneg _ (by decide)]; rfl
      have q2 : (m : Int).fmod 16 = ((m % 16 : Nat) : Int) := by rw [Int.fmod_eq_emod_of_nonneg _ (by decide)]; rfl
      have q3 := apB_cut (m % 16) (Nat.mod_lt _ (by decide))
      refine ExOk.tree (c := cfg noSp (topSt 28)) hx.ok hN (n := 20) (ok_eq (t' := .need ((16 : Int) ≠ (0 : Int) ∧ Builtin.divisionGoesByPylong (↑m : Int) (16 : Int) = false) ( .need (partOk (some ((↑m : Int).fmod (16 : Int))) (some ((↑m : Int).fmod (16 : Int) + (1 : Int))) ∧ apB.length ≤ sizeLine) ( .need ((cutL apB (some ((↑m : Int).fmod (16 : Int))) (some ((↑m : Int).fmod (16 : Int) + (1 : Int)))).length + v.length ≤   sizeLine) ( .ret .next ⟨[(S "num", (.int ((↑m : Int).fdiv (16 : Int)))), (S "val", (.bytes (cutL apB (some ((↑m : Int).fmod (16 : Int))) (some ((↑m : Int).fmod (16 : Int) + (1 : Int))) ++ v))), (S "AP", (.bytes (apB))), (S "mod", (.int ((↑m : Int).fmod (16 : Int))))], [], [(.tup [(.int ((↑m : Int).fdiv (16 : Int))), (.int ((↑m : Int).fmod (16 : Int)))])]⟩)))) (by kernel_rfl!) ?_)
      rw [q1, q2, q3]
      refine ⟨⟨by decide, PyProof.noPylong_small (by decide)⟩, ⟨⟨by show (0 : Int) ≤ _; omega, by show (0 : Int) ≤ _; omega⟩, by decide⟩, by simp; omega, m / 16, by omega, [], 3, by rfl, UInt8.ofNat (65 + m % 16) :: v, rfl, ?_⟩
      rw [← e]; simp
    · rename_i hm
      have hm : m = 0 := by simpa using hm
      refine ExOk.tree (c := cfg noSp (topSt 28)) hx.ok hN (n := 20) (ok_eq (t' := .ret (.ret (.bytes (v))) ⟨[(S "num", (.int ((↑m : Int)))), (S "val", (.bytes (v))), (S "AP", (.bytes (apB)))], [], []⟩) (by kernel_rfl!) ?_)
      subst hm
      refine ⟨[], by rfl, by rfl, ?_, rfl⟩
      rw [ap, if_pos rfl] at e
      rw [← e]; rfl
  · refine ⟨[], 3, by rfl, [], ?_, by simp⟩
    show St.mk _ _ _ = St.mk _ _ _
    have : (if z < 0 then -z else z) = (z.natAbs : Int) := by split <;> omega
    rw [this]; rfl
end
end Mine
namespace Mine
noncomputable section
noncomputable def retE : Stmt → Expr
  | .Return (some e) _ => e
  | _ => default
noncomputable def asgE : Stmt → Expr
  | .Assign _ e _ => e
  | _ => default
noncomputable def stPos : Stmt → Pos
  | .Assign _ _ p => p
  | .Return _ p => p
  | .For _ _ _ _ p => p
  | _ => default
noncomputable def tgtPos : Stmt → Pos
  | .Assign [.Name _ p] _ _ => p
  | .For (.Name _ p) _ _ _ _ => p
  | _ => default
noncomputable def arg0 : Expr → Expr
  | .Call _ (e :: _) _ _ => e
  | _ => default
noncomputable def cElt : Expr → Expr
  | .ListComp e _ _ _ => e
  | _ => default
noncomputable def cIter : Expr → Expr
  | .ListComp _ (⟨_, i, _, _⟩ :: _) _ _ => i
  | _ => default
noncomputable def cIfs : Expr → List Expr
  | .ListComp _ (⟨_, _, i, _⟩ :: _) _ _ => i
  | _ => []
noncomputable def cScope : Expr → Scope
  | .ListComp _ _ s _ => s
  | _ => default
noncomputable def cPos : Expr → Pos
  | .ListComp _ _ _ p => p
  | _ => default
noncomputable def cTp : Expr → Pos
  | .ListComp _ (⟨.Name _ p, _, _, _⟩ :: _) _ _ => p
  | _ => default
noncomputable def fIter : Stmt → Expr
  | .For _ i _ _ _ => i
  | _ => default
noncomputable def fBody : Stmt → List Stmt
  | .For _ _ b _ _ => b
  | _ => []
noncomputable def accS : List (List Nat) → AO
  | [] => .ints []
  | x :: l => .strs (x :: l)
noncomputable abbrev B30 : List Stmt := bodyOf (topSt 30)
noncomputable abbrev C30 : Expr := arg0 (retE (st1 B30 1))
noncomputable abbrev c30 : Cfg := ⟨noSp, noCp, relabN (cfg noSp (topSt 30)).N (cScope C30).names⟩
noncomputable def letU : List Nat := [65, 66, 67, 68, 69, 70, 71, 72, 73, 74, 75, 76, 77, 78, 79, 80]
noncomputable def stepZ (z : Int) : Int := 1 + (z.fdiv 16).fmod 7
noncomputable def roleC (z : Int) (k : Nat) : Nat := letU.getD ((z + (k : Int) * stepZ z).fmod 16).toNat 0
noncomputable def rolesL (z : Int) : List Nat := [roleC z 0, roleC z 1, roleC z 2, roleC z 3]
noncomputable def rolesS (z : Int) : List (List Nat) := [[roleC z 0], [roleC z 1], [roleC z 2], [roleC z 3]]
noncomputable abbrev cfgR (z : Int) : Cfg := { cfg noSp (topSt 30) with cp := fun _ σ => some (.obj (σ.objs.length + 1), pushO (pushO σ (.rng 0 4)) (.strs (rolesS z))) }
noncomputable def rSt (z s : Int) (os : List AO) : St := ⟨[], [(S "first", 0), (S "step", 1)], [.cell (some (.int z)), .cell (some (.int s))] ++ os⟩
theorem roleC_bound (z : Int) (k : Int) : 0 ≤ (z + k * stepZ z).fmod 16 ∧ (z + k * stepZ z).fmod 16 < 16 := by
  rw [Int.fmod_eq_emod_of_nonneg _ (by decide)]
  exact ⟨Int.emod_nonneg _ (by decide), Int.emod_lt_of_pos _ (by decide)⟩
theorem roles_comp {x : Fx} (hx : x.Ok) (z : Int) (hN : x.env.scope.names = (cfgR z).N) : EvOk x C30 (rSt z (stepZ z) []) fun d' o => d' = .obj 3 ∧ o = rSt z (stepZ z) [.rng 0 4, .strs (rolesS z)] := by
  have e : C30 = .ListComp (cElt C30) [⟨.Name (S "k") (cTp C30), cIter C30, cIfs C30, 0⟩] (cScope C30) (cPos C30) := by kernel_rfl!
  rw [e]
  refine EvOk.comp (c := cfgR z) hx hN c30 3 4 (.range 0 4) (fun i σ => i ≤ 4 ∧ σ = rSt z (stepZ z) [.rng 0 4, .it (.range 0 4) i, accS ((rolesS z).take i)]) (by intro _; rfl) (by kernel_rfl!) (by kernel_rfl!) (by kernel_rfl!) ?_ ?_ ?_
  · refine ok_eq (t' := (fun s : Int => (.ret (.obj 2) ⟨[], [(S "first", 0), (S "step", 1)], [(.cell (some (.int (z)))), (.cell (some (.int (s)))), (AO.rng (0 : Int) (4 : Int))]⟩ : T D)) (stepZ z)) (by kernel_rfl!) ?_
    refine ⟨small_one (by decide) (by decide) (by decide) (by decide), rfl, by rfl, by rfl, by rfl, rfl, rfl, ⟨0, rfl⟩, ⟨by omega, by rfl⟩, ?_⟩
    rintro i σ' ⟨hi, rfl⟩ hn
    have hn : (if i < 4 then some (D.int (0 + (i : Nat))) else none) = none := hn
    split at hn
    · cases hn
    · obtain rfl : i = 4 := by omega
      exact ⟨[0, 1, 2, 4], 0, by rfl, by rfl, by rfl, by rfl, by rfl⟩
  · rintro i σ ⟨hi, rfl⟩; exact hi
  · rintro x' hx' i σ ⟨hi, rfl⟩
    refine ⟨rfl, rfl, fun d hd => ?_⟩
    have hd : (if i < 4 then some (D.int (0 + (i : Nat))) else none) = some d := hd
    split at hd
    · rename_i h4
      cases hd
      have rb := roleC_bound z (0 + (i : Nat))
      have im : IntMulOk ((0 : Int) + (i : Int)) (stepZ z) := .of_left (PySem.intBits_le_64 (by omega) (by omega))
      rcases (by omega : i = 0 ∨ i = 1 ∨ i = 2 ∨ i = 3) with rfl | rfl | rfl | rfl
      · refine ok_eq (t' := (fun (i : Nat) (s : Int) => (.need (IntMulOk ((0 : Int) + (↑i : Int)) s) ( .need ((16 : Int) ≠ (0 : Int)) ( .need ((0 : Int) ≤ (z + ((0 : Int) + (↑i : Int)) * s).fmod (16 : Int) ∧   (z + ((0 : Int) + (↑i : Int)) * s).fmod (16 : Int) < (↑letU.length : Int) ∧     letU.length ≤ sizeLine) ( .ret () ⟨[(S "k", (.int ((0 : Int) + (↑i : Int))))], [(S "first", 0), (S "step", 1)], [(.cell (some (.int (z)))), (.cell (some (.int (s)))), (AO.rng (0 : Int) (4 : Int)), (AO.it (ItK.range (0 : Int) (4 : Nat)) (i + (1 : Nat))), (.strs ([[letU.getD ((z + ((0 : Int) + (↑i : Int)) * s).fmod (16 : Int)).toNat       (0 : Nat)]]))]⟩))) : T Unit)) 0 (stepZ z)) (by kernel_rfl!) ?_
        exact ⟨im, by decide, ⟨rb.1, rb.2, by decide⟩, [0, 1, 2, 3, 4], 0, by rfl, by omega, by rfl⟩
      · refine ok_eq (t' := (fun (i : Nat) (s : Int) (xs : List (List Nat)) => (.need (IntMulOk ((0 : Int) + (↑i : Int)) s) ( .need ((16 : Int) ≠ (0 : Int)) ( .need ((0 : Int) ≤ (z + ((0 : Int) + (↑i : Int)) * s).fmod (16 : Int) ∧   (z + ((0 : Int) + (↑i : Int)) * s).fmod (16 : Int) < (↑letU.length : Int) ∧     letU.length ≤ sizeLine) ( .need (xs.length ≤ sizeLine) ( .ret () ⟨[(S "k", (.int ((0 : Int) + (↑i : Int))))], [(S "first", 0), (S "step", 1)], [(.cell (some (.int (z)))), (.cell (some (.int (s)))), (AO.rng (0 : Int) (4 : Int)), (AO.it (ItK.range (0 : Int) (4 : Nat)) (i + (1 : Nat))), (.strs (xs ++   [[letU.getD ((z + ((0 : Int) + (↑i : Int)) * s).fmod (16 : Int)).toNat         (0 : Nat)]]))]⟩)))) : T Unit)) 1 (stepZ z) ((rolesS z).take 1)) (by kernel_rfl!) ?_
        exact ⟨im, by decide, ⟨rb.1, rb.2, by decide⟩, by simp [rolesS]; decide, [0, 1, 2, 3, 4], 0, by rfl, by omega, by rfl⟩
      · refine ok_eq (t' := (fun (i : Nat) (s : Int) (xs : List (List Nat)) => (.need (IntMulOk ((0 : Int) + (↑i : Int)) s) ( .need ((16 : Int) ≠ (0 : Int)) ( .need ((0 : Int) ≤ (z + ((0 : Int) + (↑i : Int)) * s).fmod (16 : Int) ∧   (z + ((0 : Int) + (↑i : Int)) * s).fmod (16 : Int) < (↑letU.length : Int) ∧     letU.length ≤ sizeLine) ( .need (xs.length ≤ sizeLine) ( .ret () ⟨[(S "k", (.int ((0 : Int) + (↑i : Int))))], [(S "first", 0), (S "step", 1)], [(.cell (some (.int (z)))), (.cell (some (.int (s)))), (AO.rng (0 : Int) (4 : Int)), (AO.it (ItK.range (0 : Int) (4 : Nat)) (i + (1 : Nat))), (.strs (xs ++   [[letU.getD ((z + ((0 : Int) + (↑i : Int)) * s).fmod (16 : Int)).toNat         (0 : Nat)]]))]⟩)))) : T Unit)) 2 (stepZ z) ((rolesS z).take 2)) (by kernel_rfl!) ?_
        exact ⟨im, by decide, ⟨rb.1, rb.2, by decide⟩, by simp [rolesS]; decide, [0, 1, 2, 3, 4], 0, by rfl, by omega, by rfl⟩
      · refine ok_eq (t' := (fun (i : Nat) (s : Int) (xs : List (List Nat)) => (.need (IntMulOk ((0 : Int) + (↑i : Int)) s) ( .need ((16 : Int) ≠ (0 : Int)) ( .need ((0 : Int) ≤ (z + ((0 : Int) + (↑i : Int)) * s).fmod (16 : Int) ∧   (z + ((0 : Int) + (↑i : Int)) * s).fmod (16 : Int) < (↑letU.length : Int) ∧     letU.length ≤ sizeLine) ( .need (xs.length ≤ sizeLine) ( .ret () ⟨[(S "k", (.int ((0 : Int) + (↑i : Int))))], [(S "first", 0), (S "step", 1)], [(.cell (some (.int (z)))), (.cell (some (.int (s)))), (AO.rng (0 : Int) (4 : Int)), (AO.it (ItK.range (0 : Int) (4 : Nat)) (i + (1 : Nat))), (.strs (xs ++   [[letU.getD ((z + ((0 : Int) + (↑i : Int)) * s).fmod (16 : Int)).toNat         (0 : Nat)]]))]⟩)))) : T Unit)) 3 (stepZ z) ((rolesS z).take 3)) (by kernel_rfl!) ?_
        exact ⟨im, by decide, ⟨rb.1, rb.2, by decide⟩, by simp [rolesS]; decide, [0, 1, 2, 3, 4], 0, by rfl, by omega, by rfl⟩
    · cases hd
theorem roles_ok (w : World) (n : Nat) (z : Int) : CallOk w n 780 [.int z] [] fun d o => d = .str (rolesL z) ∧ o = [] := by
  refine enterC (oc := .type "function") (fd := F780) (body := B30.take 1 ++ B30.drop 1) (names := [S "first"]) [] [] .nil (by kernel_rfl!) (by kernel_rfl!) (by kernel_rfl!) (by kernel_rfl!) (by kernel_rfl!) (fun s vals _ h => match vals, h with | [a], _ => .of_eq (by kernel_rfl!)) fun x hx => ?_
  have hN : x.env.scope.names = (cfg noSp (topSt 30)).N := by rw [hx.sc]; kernel_rfl!
  refine ExOk.app (ExOk.tree (c := cfg noSp (topSt 30)) hx.ok hN (n := 20) (ok_eq (t' := .need ((16 : Int) ≠ (0 : Int) ∧ Builtin.divisionGoesByPylong z (16 : Int) = false) ( .need ((7 : Int) ≠ (0 : Int)) ( .ret .next ⟨[], [(S "first", 0), (S "step", 1)], [(.cell (some (.int (z)))), (.cell (some (.int ((1 : Int) + (z.fdiv (16 : Int)).fmod (7 : Int)))))]⟩))) (by kernel_rfl!) ?_))
  refine ⟨⟨by decide, PyProof.noPylong_small (by decide)⟩, by decide, ?_⟩
  refine ExOk.tree (c := cfgR z) hx.ok hN (n := 20) (ok_eq (t' := .ext C30 ⟨[], [(S "first", 0), (S "step", 1)], [(.cell (some (.int (z)))), (.cell (some (.int (stepZ z))))]⟩ (.obj 3) ⟨[], [(S "first", 0), (S "step", 1)], [(.cell (some (.int (z)))), (.cell (some (.int (stepZ z)))), (AO.rng (0 : Int) (4 : Int)), (.strs (rolesS z))]⟩ ( .need (strsW ([] : List Nat) (rolesS z) ≤ sizeLine) ( .ret (.ret (.str (glue ([] : List Nat) (rolesS z)))) ⟨[], [(S "first", 0), (S "step", 1)], [(.cell (some (.int (z)))), (.cell (some (.int (stepZ z)))), (AO.rng (0 : Int) (4 : Int)), (.strs (rolesS z))]⟩))) (by kernel_rfl!) ?_)
  exact ⟨roles_comp hx.ok z hN, (by show 4 ≤ sizeLine; decide), [], by rfl, by rfl, rfl, rfl⟩
end
end Mine
namespace Mine
noncomputable section
theorem inS_one (c : Nat) (l : List Nat) : inS [c] l = decide (c ∈ l) := by
  unfold inS
  have := PySem.StrLaws.found_one ⟨l.toArray⟩ c
  rw [str_len] at this
  exact this
theorem occ_letU (c : Nat) (h1 : 65 ≤ c) (h2 : c ≤ 80) : occ letU [c] = [c - 65] := by
  have : ∀ c : Fin 16, occ letU [65 + (c : Nat)] = [(c : Nat)] := by decide +kernel
  have := this ⟨c - 65, by omega⟩
  dsimp only at this
  rw [show 65 + (c - 65) = c by omega] at this
  exact this
noncomputable abbrev B31 : List Stmt := bodyOf (topSt 31)
noncomputable abbrev B32 : List Stmt := bodyOf (topSt 32)
noncomputable def rd (w : List Nat) (n : Int) : Int := w.foldl (fun (n : Int) (c : Nat) => n * 16 + ((c : Int) - 65)) n
noncomputable def alone (r1 r2 : Nat) : List Nat → Bool
  | [] => false
  | b :: _ => !decide (b ∈ [r1, r2])
noncomputable def insW (r1 r2 : Nat) : List Nat → List Nat
  | [] => []
  | c :: rest => (if c = r1 ∨ (c = r2 ∧ alone r1 r2 rest = false) then [r2, c] else [c]) ++ insW r1 r2 rest
theorem alone_cons (r1 r2 b : Nat) (rest : List Nat) : alone r1 r2 (b :: rest) = !decide (b ∈ [r1, r2]) := rfl
theorem insW_cons (r1 r2 c : Nat) (rest : List Nat) : insW r1 r2 (c :: rest) = (if c = r1 ∨ (c = r2 ∧ alone r1 r2 rest = false) then [r2, c] else [c]) ++ insW r1 r2 rest := rfl
noncomputable def rdSt (w : List Nat) (n : Int) (os : List AO) : St := ⟨[(S "word", .str w), (S "number", .int n)], [], os⟩
noncomputable def inSt (w : List Nat) (r0 r1 r2 r3 : Nat) (t : List Nat) (os : List AO) : St := ⟨[(S "word", .str w), (S "roles", .str [r0, r1, r2, r3]), (S "text", .str t)], [], os⟩
noncomputable def insStart (w : List Nat) (r0 r1 r2 r3 : Nat) (t : List Nat) (os : List AO) (j : Int) : St := ⟨[(S "word", .str w), (S "roles", .str [r0, r1, r2, r3]), (S "text", .str t), (S "j", .int j)], [], os⟩
theorem ok_t {α : Type} {x : Fx} {b : Bool} {t e : T α} {P : α → St → Prop} (hb : b = true) (h : ok x t P) : ok x (.br b t e) P := ⟨fun _ => h, fun q => by rw [hb] at q; cases q⟩
theorem ok_f {α : Type} {x : Fx} {b : Bool} {t e : T α} {P : α → St → Prop} (hb : b = false) (h : ok x e P) : ok x (.br b t e) P := ⟨fun q => (by rw [hb] at q; cases q), fun _ => h⟩
theorem ok_need {α : Type} {x : Fx} {p : Prop} {t : T α} {P : α → St → Prop} (hp : p) (h : ok x t P) : ok x (.need p t) P := ⟨hp, h⟩
theorem rd_snoc (l : List Nat) (c : Nat) (n : Int) : rd (l ++ [c]) n = rd l n * 16 + ((c : Int) - 65) := by unfold rd; rw [List.foldl_append]; rfl
theorem item_str {u : List Nat} {os : List AO} {i : Nat} {d : D} (h : itemOf (.str u) os i = some d) : ∃ c, u[i]? = some c ∧ d = .str [c] := by
  obtain ⟨c, h1, h2⟩ := Option.map_eq_some_iff.mp (h : u[i]?.map (fun c => D.str [c]) = some d)
  exact ⟨c, h1, h2.symm⟩
theorem item_str_none {u : List Nat} {os : List AO} {i : Nat} (h : itemOf (.str u) os i = none) : u.length ≤ i := by
  have h : u[i]?.map (fun c => D.str [c]) = none := h
  rw [Option.map_eq_none_iff] at h
  exact List.getElem?_eq_none_iff.mp h
theorem item_rng {a : Int} {n : Nat} {os : List AO} {i : Nat} {d : D} (h : itemOf (.range a n) os i = some d) : i < n ∧ d = .int (a + (i : Nat)) := by
  have h : (if i < n then some (D.int (a + (i : Nat))) else none) = some d := h
  split at h
  · rename_i q; cases h; exact ⟨q, rfl⟩
  · cases h
theorem item_rng_none {a : Int} {n : Nat} {os : List AO} {i : Nat} (h : itemOf (.range a n) os i = none) : n ≤ i := by
  have h : (if i < n then some (D.int (a + (i : Nat))) else none) = none := h
  split at h
  · cases h
  · omega
theorem take_snoc {α : Type} {l : List α} {i : Nat} {c : α} (h : l[i]? = some c) : l.take (i + 1) = l.take i ++ [c] := by rw [List.take_add_one, h]; rfl
theorem rd_ok (w : World) (n : Nat) (wd : List Nat) (hw : ∀ c ∈ wd, 65 ≤ c ∧ c ≤ 80) : CallOk w n 787 [.str wd] [] fun d o => d = .int (rd wd 0) ∧ o = [] := by
  refine enterC (oc := .type "function") (fd := F787) (body := B31.take 1 ++ ([st1 B31 1] ++ B31.drop 2)) (names := [S "word"]) [] [] .nil (by kernel_rfl!) (by kernel_rfl!) (by kernel_rfl!) (by kernel_rfl!) (by kernel_rfl!) (fun s vals _ h => match vals, h with | [a], _ => .of_eq (by kernel_rfl!)) fun x hx => ?_
  have hN : x.env.scope.names = (cfg noSp (topSt 31)).N := by rw [hx.sc]; kernel_rfl!
  refine ExOk.app (ExOk.tree (c := cfg noSp (topSt 31)) hx.ok hN (n := 20) (ok_eq (t' := (fun (w : List Nat) => (.ret .next ⟨[(S "word", (.str (w))), (S "number", (.int ((0 : Int))))], [], []⟩ : T Fl)) wd) (by kernel_rfl!) ?_))
  refine ExOk.app ?_
  have e : [st1 B31 1] = [.For (.Name (S "letter") (tgtPos (st1 B31 1))) (fIter (st1 B31 1)) (fBody (st1 B31 1)) [] (stPos (st1 B31 1))] := by kernel_rfl!
  rw [e]
  refine ExOk.for (c := cfg noSp (topSt 31)) hx.ok hN hx.a0 1 0 wd.length (.str wd) (fun i σ => i ≤ wd.length ∧ σ = rdSt wd (rd (wd.take i) 0) [.it (.str wd) i]) (by intro _; rfl) ?_ ?_ ?_
  · refine ok_eq (t' := (fun (w : List Nat) (n : Int) => (.ret (.obj 0) ⟨[(S "word", (.str (w))), (S "number", (.int (n)))], [], [(AO.it (ItK.str w) (0 : Nat))]⟩ : T D)) wd 0) (by kernel_rfl!) ?_
    exact ⟨[0], 2, 0, rfl, by rfl, by rfl, by rfl, rfl, by omega, by rfl⟩
  · rintro i σ ⟨h, rfl⟩; exact h
  · rintro x' ag i σ ⟨hi, rfl⟩
    have hN' : x'.env.scope.names = (cfg noSp (topSt 31)).N := by rw [ag.env]; exact hN
    refine ⟨rfl, rfl, fun d hd => ?_, fun hn => ?_⟩
    · obtain ⟨c, hc, rfl⟩ := item_str hd
      have hlt := (List.getElem?_eq_some_iff.mp hc).1
      obtain ⟨b1, b2⟩ := hw c (List.mem_of_getElem? hc)
      refine ok_eq (t' := .ret () ⟨(rdSt wd (rd (wd.take i) 0) []).loc ++ [(S "letter", .str [c])], [], [.it (.str wd) (i + 1)]⟩) (by kernel_rfl!) ?_
      refine ExOk.tree (c := cfg noSp (topSt 31)) ag.ok hN' (n := 20) (ok_eq (t' := (fun (w : List Nat) (n : Int) (c : Nat) (o : AO) => (.need (IntMulOk n (16 : Int)) ( .need (occ letU [c] ≠ []) ( .ret .next ⟨[(S "word", (.str (w))), (S "number", (.int (n * (16 : Int) + (↑((occ letU [c]).headD (0 : Nat)) : Int)))), (S "letter", (.str ([c])))], [], [(o)]⟩)) : T Fl)) wd (rd (wd.take i) 0) c (.it (.str wd) (i + 1))) (by kernel_rfl!) ?_)
      have eo := occ_letU c b1 b2
      refine ⟨.of_right (by decide), by rw [eo]; simp, [0], 2, by rfl, by omega, ?_⟩
      rw [take_snoc hc, rd_snoc, ← show (((occ letU [c]).headD 0 : Nat) : Int) = (c : Int) - 65 by rw [eo]; show ((c - 65 : Nat) : Int) = _; omega]
      rfl
    · have hn := item_str_none hn
      obtain rfl : i = wd.length := by omega
      refine ⟨[], 2, by rfl, by rfl, ?_⟩
      rw [List.take_length]
      refine ExOk.tree (c := cfg noSp (topSt 31)) hx.ok hN (n := 20) (ok_eq (t' := (fun (w : List Nat) (n : Int) => (.ret (.ret (.int (n))) ⟨[(S "word", (.str (w))), (S "number", (.int (n)))], [], []⟩ : T Fl)) wd (rd wd 0)) (by kernel_rfl!) ?_)
      exact ⟨[], by rfl, by rfl, rfl, rfl⟩
theorem behind_eq {w : List Nat} {i c : Nat} {rest : List Nat} (h : w.drop i = c :: rest) : cutL w (some ((0 : Int) + (i : Nat) + 1)) (some ((0 : Int) + (i : Nat) + 2)) = rest.take 1 := by
  unfold cutL loN
  dsimp only
  have e1 : ((0 : Int) + (i : Nat) + 1).toNat = i + 1 := by omega
  have e2 : ((0 : Int) + (i : Nat) + 2).toNat = i + 2 := by omega
  rw [e1, e2, show i + 2 - (i + 1) = 1 by omega]
  have : w.drop (i + 1) = rest := by
    have := congrArg List.tail h
    rwa [List.tail_drop] at this
  rw [this]
theorem getD_drop {w : List Nat} {i c : Nat} {rest : List Nat} (h : w.drop i = c :: rest) : w.getD i 0 = c := by
  have : (w.drop i)[0]? = some c := by rw [h]; rfl
  rw [List.getElem?_drop] at this
  exact getD_of (by simpa using this)
theorem ins_ok (w : World) (n : Nat) (wd : List Nat) (r0 r1 r2 r3 : Nat) (hw : wd.length < 1000000) : CallOk w n 794 [.str wd, .str [r0, r1, r2, r3]] [] fun d o => d = .str (insW r1 r2 wd) ∧ o = [] := by
  have hsz : 1000000 * 4 ≤ sizeLine := by decide
  refine enterC (oc := .type "function") (fd := F794) (body := B32.take 1 ++ ([st1 B32 1] ++ B32.drop 2)) (names := [S "word", S "roles"]) [] [] .nil (by kernel_rfl!) (by kernel_rfl!) (by kernel_rfl!) (by kernel_rfl!) (by kernel_rfl!) (fun s vals _ h => match vals, h with | [a, b], _ => .of_eq (by kernel_rfl!)) fun x hx => ?_
  have hN : x.env.scope.names = (cfg noSp (topSt 32)).N := by rw [hx.sc]; kernel_rfl!
  refine ExOk.app (ExOk.tree (c := cfg noSp (topSt 32)) hx.ok hN (n := 20) (ok_eq (t' := (fun (w : List Nat) => (.ret .next ⟨[(S "word", (.str (w))), (S "roles", (.str ([r0, r1, r2, r3]))), (S "text", (.str []))], [], []⟩ : T Fl)) wd) (by kernel_rfl!) ?_))
  refine ExOk.app ?_
  have e : [st1 B32 1] = [.For (.Name (S "j") (tgtPos (st1 B32 1))) (fIter (st1 B32 1)) (fBody (st1 B32 1)) [] (stPos (st1 B32 1))] := by kernel_rfl!
  rw [e]
  refine ExOk.for (c := cfg noSp (topSt 32)) hx.ok hN hx.a0 2 1 wd.length (.range 0 ((wd.length : Int) - 0).toNat) (fun i σ => i ≤ wd.length ∧ ∃ t : List Nat, σ = inSt wd r0 r1 r2 r3 t [.rng 0 wd.length, .it (.range 0 ((wd.length : Int) - 0).toNat) i] ∧ t.length ≤ 2 * i ∧ t ++ insW r1 r2 (wd.drop i) = insW r1 r2 wd) (by intro _; rfl) ?_ ?_ ?_
  · refine ok_eq (t' := (fun (w : List Nat) => (.need (w.length ≤ sizeLine) ( .need (Builtin.Range.small (0 : Int) (↑w.length : Int) (1 : Int) = true) ( .ret (.obj 1) ⟨[(S "word", (.str (w))), (S "roles", (.str ([r0, r1, r2, r3]))), (S "text", (.str []))], [], [(AO.rng (0 : Int) (↑w.length : Int)), (AO.it (ItK.range (0 : Int) ((↑w.length : Int) - (0 : Int)).toNat) (0 : Nat))]⟩)) : T D)) wd) (by kernel_rfl!) ?_
    exact ⟨by omega, small_one (by decide) (by decide) (by omega) (by omega), [0, 1], 3, 1, rfl, by rfl, by rfl, by rfl, rfl, by omega, [], by rfl, by simp, by simp⟩
  · rintro i σ ⟨h, _⟩; exact h
  · rintro x' ag i σ ⟨hi, t, rfl, ht, et⟩
    have hN' : x'.env.scope.names = (cfg noSp (topSt 32)).N := by rw [ag.env]; exact hN
    refine ⟨rfl, rfl, fun d hd => ?_, fun hn => ?_⟩
    · obtain ⟨hlt, rfl⟩ := item_rng hd
      have hlt : i < wd.length := by omega
      refine ok_eq (t' := .ret () (insStart wd r0 r1 r2 r3 t [.rng 0 wd.length, .it (.range 0 ((wd.length : Int) - 0).toNat) (i + 1)] (0 + (i : Nat)))) (by kernel_rfl!) ?_
      refine ExOk.tree (c := cfg noSp (topSt 32)) ag.ok hN' (n := 20) (ok_eq (t' := (fun (w : List Nat) (o o' : AO) (j : Int) => (.need (partOk (some (j + (1 : Int))) (some (j + (2 : Int))) ∧ w.length ≤ sizeLine) ( .br (!decide (cutL w (some (j + (1 : Int))) (some (j + (2 : Int))) = ([] : List Nat))) ( .need (partOk (some (1 : Int)) (some (3 : Int)) ∧ [r0, r1, r2, r3].length ≤ sizeLine) ( .need ((0 : Int) ≤ j ∧ j < (↑w.length : Int) ∧ w.length ≤ sizeLine) ( .need ((0 : Int) ≤ (1 : Int) ∧ (1 : Int) < (↑[r0, r1, r2, r3].length : Int) ∧ [r0, r1, r2, r3].length ≤ sizeLine) ( .br (decide ([w.getD j.toNat (0 : Nat)] = [[r0, r1, r2, r3].getD (Int.toNat (1 : Int)) (0 : Nat)])) ( .need ((0 : Int) ≤ (2 : Int) ∧ (2 : Int) < (↑[r0, r1, r2, r3].length : Int) ∧ [r0, r1, r2, r3].length ≤ sizeLine) ( .need (t.length + [[r0, r1, r2, r3].getD (Int.toNat (2 : Int)) (0 : Nat)].length ≤ sizeLine) ( .need ((0 : Int) ≤ j ∧ j < (↑w.length : Int) ∧ w.length ≤ sizeLine) ( .need ((t ++ [[r0, r1, r2, r3].getD (Int.toNat (2 : Int)) (0 : Nat)]).length + [w.getD j.toNat (0 : Nat)].length ≤ sizeLine) ( .ret .next ⟨[(S "word", (.str (w))), (S "roles", (.str ([r0, r1, r2, r3]))), (S "text", (.str (t ++ [[r0, r1, r2, r3].getD (Int.toNat (2 : Int)) (0 : Nat)] ++ [w.getD j.toNat (0 : Nat)]))), (S "j", (.int (j))), (S "behind", (.str (cutL w (some (j + (1 : Int))) (some (j + (2 : Int)))))), (S "alone", (.bool (!inS (cutL w (some (j + (1 : Int))) (some (j + (2 : Int)))) (cutL [r0, r1, r2, r3] (some (1 : Int)) (some (3 : Int))))))], [], [(o), (o')]⟩))))) ( .need ((0 : Int) ≤ j ∧ j < (↑w.length : Int) ∧ w.length ≤ sizeLine) ( .need ((0 : Int) ≤ (2 : Int) ∧ (2 : Int) < (↑[r0, r1, r2, r3].length : Int) ∧ [r0, r1, r2, r3].length ≤ sizeLine) ( .br (decide ([w.getD j.toNat (0 : Nat)] = [[r0, r1, r2, r3].getD (Int.toNat (2 : Int)) (0 : Nat)])) ( .br (!!inS (cutL w (some (j + (1 : Int))) (some (j + (2 : Int)))) (cutL [r0, r1, r2, r3] (some (1 : Int)) (some (3 : Int)))) ( .need ((0 : Int) ≤ (2 : Int) ∧ (2 : Int) < (↑[r0, r1, r2, r3].length : Int) ∧ [r0, r1, r2, r3].length ≤ sizeLine) ( .need (t.length + [[r0, r1, r2, r3].getD (Int.toNat (2 : Int)) (0 : Nat)].length ≤ sizeLine) ( .need ((0 : Int) ≤ j ∧ j < (↑w.length : Int) ∧ w.length ≤ sizeLine) ( .need ((t ++ [[r0, r1, r2, r3].getD (Int.toNat (2 : Int)) (0 : Nat)]).length + [w.getD j.toNat (0 : Nat)].length ≤ sizeLine) ( .ret .next ⟨[(S "word", (.str (w))), (S "roles", (.str ([r0, r1, r2, r3]))), (S "text", (.str (t ++ [[r0, r1, r2, r3].getD (Int.toNat (2 : Int)) (0 : Nat)] ++ [w.getD j.toNat (0 : Nat)]))), (S "j", (.int (j))), (S "behind", (.str (cutL w (some (j + (1 : Int))) (some (j + (2 : Int)))))), (S "alone", (.bool (!inS (cutL w (some (j + (1 : Int))) (some (j + (2 : Int)))) (cutL [r0, r1, r2, r3] (some (1 : Int)) (some (3 : Int))))))], [], [(o), (o')]⟩))))) ( .need ((0 : Int) ≤ j ∧ j < (↑w.length : Int) ∧ w.length ≤ sizeLine) ( .need (t.length + [w.getD j.toNat (0 : Nat)].length ≤ sizeLine) ( .ret .next ⟨[(S "word", (.str (w))), (S "roles", (.str ([r0, r1, r2, r3]))), (S "text", (.str (t ++ [w.getD j.toNat (0 : Nat)]))), (S "j", (.int (j))), (S "behind", (.str (cutL w (some (j + (1 : Int))) (some (j + (2 : Int)))))), (S "alone", (.bool (!inS (cutL w (some (j + (1 : Int))) (some (j + (2 : Int)))) (cutL [r0, r1, r2, r3] (some (1 : Int)) (some (3 : Int))))))], [], [(o), (o')]⟩)))) ( .need ((0 : Int) ≤ j ∧ j < (↑w.length : Int) ∧ w.length ≤ sizeLine) ( .need (t.length + [w.getD j.toNat (0 : Nat)].length ≤ sizeLine) ( .ret .next ⟨[(S "word", (.str (w))), (S "roles", (.str ([r0, r1, r2, r3]))), (S "text", (.str (t ++ [w.getD j.toNat (0 : Nat)]))), (S "j", (.int (j))), (S "behind", (.str (cutL w (some (j + (1 : Int))) (some (j + (2 : Int)))))), (S "alone", (.bool (!inS (cutL w (some (j + (1 : Int))) (some (j + (2 : Int)))) (cutL [r0, r1, r2, r3] (some (1 : Int)) (some (3 : Int))))))], [], [(o), (o')]⟩)))))))))) ( .need ((0 : Int) ≤ j ∧ j < (↑w.length : Int) ∧ w.length ≤ sizeLine) ( .need ((0 : Int) ≤ (1 : Int) ∧ (1 : Int) < (↑[r0, r1, r2, r3].length : Int) ∧ [r0, r1, r2, r3].length ≤ sizeLine) ( .br (decide ([w.getD j.toNat (0 : Nat)] = [[r0, r1, r2, r3].getD (Int.toNat (1 : Int)) (0 : Nat)])) ( .need ((0 : Int) ≤ (2 : Int) ∧ (2 : Int) < (↑[r0, r1, r2, r3].length : Int) ∧ [r0, r1, r2, r3].length ≤ sizeLine) ( .need (t.length + [[r0, r1, r2, r3].getD (Int.toNat (2 : Int)) (0 : Nat)].length ≤ sizeLine) ( .need ((0 : Int) ≤ j ∧ j < (↑w.length : Int) ∧ w.length ≤ sizeLine) ( .need ((t ++ [[r0, r1, r2, r3].getD (Int.toNat (2 : Int)) (0 : Nat)]).length + [w.getD j.toNat (0 : Nat)].length ≤ sizeLine) ( .ret .next ⟨[(S "word", (.str (w))), (S "roles", (.str ([r0, r1, r2, r3]))), (S "text", (.str (t ++ [[r0, r1, r2, r3].getD (Int.toNat (2 : Int)) (0 : Nat)] ++ [w.getD j.toNat (0 : Nat)]))), (S "j", (.int (j))), (S "behind", (.str (cutL w (some (j + (1 : Int))) (some (j + (2 : Int)))))), (S "alone", (.bool (!decide (cutL w (some (j + (1 : Int))) (some (j + (2 : Int))) = ([] : List Nat)))))], [], [(o), (o')]⟩))))) ( .need ((0 : Int) ≤ j ∧ j < (↑w.length : Int) ∧ w.length ≤ sizeLine) ( .need ((0 : Int) ≤ (2 : Int) ∧ (2 : Int) < (↑[r0, r1, r2, r3].length : Int) ∧ [r0, r1, r2, r3].length ≤ sizeLine) ( .br (decide ([w.getD j.toNat (0 : Nat)] = [[r0, r1, r2, r3].getD (Int.toNat (2 : Int)) (0 : Nat)])) ( .br (!!decide (cutL w (some (j + (1 : Int))) (some (j + (2 : Int))) = ([] : List Nat))) ( .need ((0 : Int) ≤ (2 : Int) ∧ (2 : Int) < (↑[r0, r1, r2, r3].length : Int) ∧ [r0, r1, r2, r3].length ≤ sizeLine) ( .need (t.length + [[r0, r1, r2, r3].getD (Int.toNat (2 : Int)) (0 : Nat)].length ≤ sizeLine) ( .need ((0 : Int) ≤ j ∧ j < (↑w.length : Int) ∧ w.length ≤ sizeLine) ( .need ((t ++ [[r0, r1, r2, r3].getD (Int.toNat (2 : Int)) (0 : Nat)]).length + [w.getD j.toNat (0 : Nat)].length ≤ sizeLine) ( .ret .next ⟨[(S "word", (.str (w))), (S "roles", (.str ([r0, r1, r2, r3]))), (S "text", (.str (t ++ [[r0, r1, r2, r3].getD (Int.toNat (2 : Int)) (0 : Nat)] ++ [w.getD j.toNat (0 : Nat)]))), (S "j", (.int (j))), (S "behind", (.str (cutL w (some (j + (1 : Int))) (some (j + (2 : Int)))))), (S "alone", (.bool (!decide (cutL w (some (j + (1 : Int))) (some (j + (2 : Int))) = ([] : List Nat)))))], [], [(o), (o')]⟩))))) ( .need ((0 : Int) ≤ j ∧ j < (↑w.length : Int) ∧ w.length ≤ sizeLine) ( .need (t.length + [w.getD j.toNat (0 : Nat)].length ≤ sizeLine) ( .ret .next ⟨[(S "word", (.str (w))), (S "roles", (.str ([r0, r1, r2, r3]))), (S "text", (.str (t ++ [w.getD j.toNat (0 : Nat)]))), (S "j", (.int (j))), (S "behind", (.str (cutL w (some (j + (1 : Int))) (some (j + (2 : Int)))))), (S "alone", (.bool (!decide (cutL w (some (j + (1 : Int))) (some (j + (2 : Int))) = ([] : List Nat)))))], [], [(o), (o')]⟩)))) ( .need ((0 : Int) ≤ j ∧ j < (↑w.length : Int) ∧ w.length ≤ sizeLine) ( .need (t.length + [w.getD j.toNat (0 : Nat)].length ≤ sizeLine) ( .ret .next ⟨[(S "word", (.str (w))), (S "roles", (.str ([r0, r1, r2, r3]))), (S "text", (.str (t ++ [w.getD j.toNat (0 : Nat)]))), (S "j", (.int (j))), (S "behind", (.str (cutL w (some (j + (1 : Int))) (some (j + (2 : Int)))))), (S "alone", (.bool (!decide (cutL w (some (j + (1 : Int))) (some (j + (2 : Int))) = ([] : List Nat)))))], [], [(o), (o')]⟩)))))))))) : T Fl)) wd (.rng 0 wd.length) (.it (.range 0 ((wd.length : Int) - 0).toNat) (i + 1)) (0 + (i : Nat))) (by kernel_rfl!) ?_)
      dsimp only
      obtain ⟨c, rest, hdr⟩ : ∃ c rest, wd.drop i = c :: rest := by
        cases h : wd.drop i with
        | nil => have := congrArg List.length h; rw [List.length_drop] at this; simp at this; omega
        | cons c rest => exact ⟨c, rest, rfl⟩
      have edr : wd.drop (i + 1) = rest := by
        have := congrArg List.tail hdr
        rwa [List.tail_drop] at this
      have leaf : ∀ {P0 : Fl → St → Prop} (t' b : List Nat) (al : Bool), t' ++ insW r1 r2 rest = insW r1 r2 wd → t'.length ≤ 2 * (i + 1) → fTurn 2 (fun σ => i + 1 ≤ wd.length ∧ ∃ t : List Nat, σ = inSt wd r0 r1 r2 r3 t [.rng 0 wd.length, .it (.range 0 ((wd.length : Int) - 0).toNat) (i + 1)] ∧ t.length ≤ 2 * (i + 1) ∧ t ++ insW r1 r2 (wd.drop (i + 1)) = insW r1 r2 wd) P0 .next
          ⟨[(S "word", .str wd), (S "roles", .str [r0, r1, r2, r3]), (S "text", .str t'), (S "j", .int (0 + (i : Nat))), (S "behind", .str b), (S "alone", .bool al)], [], [.rng 0 wd.length, .it (.range 0 ((wd.length : Int) - 0).toNat) (i + 1)]⟩ := fun {P0} t' b al h1 h2 =>
        ⟨[0, 1], 3, by rfl, hlt, t', by rfl, h2, by rw [edr]; exact h1⟩
      have ej : ((0 : Int) + (i : Nat)).toNat = i := by omega
      rw [ej, behind_eq hdr, getD_drop hdr]
      have nl : ∀ k : Int, 0 ≤ (0 : Int) + (i : Nat) + k ∨ k < 0 := fun k => by omega
      have n1 : (partOk (some ((0 : Int) + (i : Nat) + 1)) (some ((0 : Int) + (i : Nat) + 2)) ∧ wd.length ≤ sizeLine) := ⟨⟨by show (0 : Int) ≤ _; omega, by show (0 : Int) ≤ _; omega⟩, by omega⟩
      have n2 : (0 : Int) ≤ 0 + (i : Nat) ∧ (0 : Int) + (i : Nat) < (wd.length : Int) ∧ wd.length ≤ sizeLine := ⟨by omega, by omega, by omega⟩
      have n3 : (0 : Int) ≤ 1 ∧ (1 : Int) < (([r0, r1, r2, r3].length : Nat) : Int) ∧ [r0, r1, r2, r3].length ≤ sizeLine := ⟨by decide, (by decide : (1 : Int) < 4), (by decide : 4 ≤ sizeLine)⟩
      have n4 : (0 : Int) ≤ 2 ∧ (2 : Int) < (([r0, r1, r2, r3].length : Nat) : Int) ∧ [r0, r1, r2, r3].length ≤ sizeLine := ⟨by decide, (by decide : (2 : Int) < 4), (by decide : 4 ≤ sizeLine)⟩
      have n5 : partOk (some (1 : Int)) (some (3 : Int)) ∧ [r0, r1, r2, r3].length ≤ sizeLine := ⟨⟨by show (0 : Int) ≤ 1; decide, by show (0 : Int) ≤ 3; decide⟩, (by decide : 4 ≤ sizeLine)⟩
      have l2 : ∀ a b : Nat, (t ++ [a]).length + [b].length ≤ sizeLine := fun a b => by simp; omega
      have l1 : ∀ a : Nat, t.length + [a].length ≤ sizeLine := fun a => by simp; omega
      rw [hdr] at et
      refine ok_need n1 ?_
      have two : ∀ a : Nat, insW r1 r2 (c :: rest) = [r2, c] ++ insW r1 r2 rest → t ++ [r2] ++ [c] ++ insW r1 r2 rest = insW r1 r2 wd := fun a h => by rw [← et, h]; simp
      have one : ∀ a : Nat, insW r1 r2 (c :: rest) = [c] ++ insW r1 r2 rest → t ++ [c] ++ insW r1 r2 rest = insW r1 r2 wd := fun a h => by rw [← et, h]; simp
      have lt2 : (t ++ [r2] ++ [c]).length ≤ 2 * (i + 1) := by simp; omega
      have lt1 : (t ++ [c]).length ≤ 2 * (i + 1) := by simp; omega
      cases rest with
      | nil =>
        refine ok_f (by simp) ?_
        refine ok_need n2 (ok_need n3 ?_)
        by_cases h1 : c = r1
        · refine ok_t (by rw [h1]; simp) (ok_need n4 (ok_need (l1 _) (ok_need n2 (ok_need (l2 _ _) ?_))))
          exact leaf _ _ _ (two 0 (by rw [insW_cons, if_pos (.inl h1)])) lt2
        · refine ok_f (by simpa using h1) (ok_need n2 (ok_need n4 ?_))
          by_cases h2 : c = r2
          · refine ok_t (by rw [h2]; simp) (ok_t (by simp) (ok_need n4 (ok_need (l1 _) (ok_need n2 (ok_need (l2 _ _) ?_)))))
            exact leaf _ _ _ (two 0 (by rw [insW_cons, if_pos (.inr ⟨h2, rfl⟩)])) lt2
          · refine ok_f (by simpa using h2) (ok_need n2 (ok_need (l1 _) ?_))
            exact leaf _ _ _ (one 0 (by rw [insW_cons, if_neg (by simp [h1, h2])])) lt1
      | cons b rest =>
        have eb : (b :: rest).take 1 = [b] := rfl
        rw [eb]
        refine ok_t (by simp) ?_
        refine ok_need n5 (ok_need n2 (ok_need n3 ?_))
        have ein : inS [b] (cutL [r0, r1, r2, r3] (some 1) (some 3)) = decide (b ∈ [r1, r2]) := inS_one b _
        by_cases h1 : c = r1
        · refine ok_t (by rw [h1]; simp) (ok_need n4 (ok_need (l1 _) (ok_need n2 (ok_need (l2 _ _) ?_))))
          exact leaf _ _ _ (two 0 (by rw [insW_cons, if_pos (.inl h1)])) lt2
        · refine ok_f (by simpa using h1) (ok_need n2 (ok_need n4 ?_))
          by_cases h2 : c = r2
          · refine ok_t (by rw [h2]; simp) ?_
            rw [ein]
            by_cases h4 : b ∈ [r1, r2]
            · refine ok_t (by rw [decide_eq_true h4]; rfl) (ok_need n4 (ok_need (l1 _) (ok_need n2 (ok_need (l2 _ _) ?_))))
              exact leaf _ _ _ (two 0 (by rw [insW_cons, if_pos (.inr ⟨h2, by rw [alone_cons, decide_eq_true h4]; rfl⟩)])) lt2
            · refine ok_f (by rw [decide_eq_false h4]; rfl) (ok_need n2 (ok_need (l1 _) ?_))
              exact leaf _ _ _ (one 0 (by rw [insW_cons, if_neg (fun q => q.elim h1 fun q => by rw [alone_cons, decide_eq_false h4] at q; exact absurd q.2 (by decide))])) lt1
          · refine ok_f (by simpa using h2) (ok_need n2 (ok_need (l1 _) ?_))
            exact leaf _ _ _ (one 0 (by rw [insW_cons, if_neg (by simp [h1, h2])])) lt1
    · have hn := item_rng_none hn
      obtain rfl : i = wd.length := by omega
      refine ⟨[], 3, by rfl, by rfl, ?_⟩
      rw [List.drop_length] at et
      have et : t = insW r1 r2 wd := by rw [← et]; simp [insW]
      subst et
      refine ExOk.tree (c := cfg noSp (topSt 32)) hx.ok hN (n := 20) (ok_eq (t' := (fun (w t : List Nat) => (.ret (.ret (.str (t))) ⟨[(S "word", (.str (w))), (S "roles", (.str ([r0, r1, r2, r3]))), (S "text", (.str (t)))], [], []⟩ : T Fl)) wd (insW r1 r2 wd)) (by kernel_rfl!) ?_)
      exact ⟨[], by rfl, by rfl, rfl, rfl⟩
end
end Mine
namespace Mine
noncomputable section
noncomputable def bare (r0 r1 r2 r3 : Nat) (w : List Nat) : List (List Nat) := w.map fun c => if c ∈ [r0, r1, r2, r3] then [r2, c] else [c]
noncomputable def spell (r0 r1 r2 r3 : Nat) (k : Int) (w : List Nat) : List Nat := if k = 2 ∧ ¬ r3 ∈ w then [r3] ++ w ++ [r3] else if 0 < k ∨ w = [] then [r1] ++ insW r1 r2 w ++ [r1] else glue [] (bare r0 r1 r2 r3 w)
noncomputable def spIn : Specs := fun a args os => match Nat.beq a 794, args, os with
  | true, [.str w, .str [r0, r1, r2, r3]], [] => .need (w.length < 1000000) (.done (.str (insW r1 r2 w)) [])
  | _, _, _ => .bad
noncomputable abbrev B33 : List Stmt := bodyOf (topSt 33)
noncomputable abbrev C33 : Expr := arg0 (retE (st1 B33 2))
noncomputable abbrev cfgS (l : List (List Nat)) : Cfg := { cfg spIn (topSt 33) with cp := fun _ σ => some (.obj σ.objs.length, pushO σ (.strs l)) }
noncomputable abbrev c33 : Cfg := ⟨noSp, noCp, relabN (cfg noSp (topSt 33)).N (cScope C33).names⟩
noncomputable def spSt (w : List Nat) (r0 r1 r2 r3 : Nat) (k : Int) (os : List AO) : St := ⟨[(S "word", .str w), (S "kind", .int k)], [(S "roles", 0)], [.cell (some (.str [r0, r1, r2, r3]))] ++ os⟩
noncomputable def spIo (w : List Nat) (r0 r1 r2 r3 : Nat) (i : Nat) (o : AO) : St := ⟨[], [(S "roles", 0)], [.cell (some (.str [r0, r1, r2, r3])), .it (.str w) i, o]⟩
theorem insW_len (r1 r2 : Nat) : ∀ w : List Nat, (insW r1 r2 w).length ≤ 2 * w.length
  | [] => by simp [insW]
  | c :: r => by
    have := insW_len r1 r2 r
    rw [insW_cons, List.length_append, List.length_cons]
    split <;> simp <;> omega
theorem bare_len (r0 r1 r2 r3 : Nat) : ∀ w : List Nat, ((bare r0 r1 r2 r3 w).map List.length).sum ≤ 2 * w.length
  | [] => by simp [bare]
  | c :: r => by
    have := bare_len r0 r1 r2 r3 r
    show ((if c ∈ [r0, r1, r2, r3] then [r2, c] else [c]) :: bare r0 r1 r2 r3 r |>.map List.length).sum ≤ _
    rw [List.map_cons, List.sum_cons, List.length_cons]
    split <;> simp <;> omega
theorem bare_take (r0 r1 r2 r3 : Nat) (w : List Nat) (i : Nat) : (bare r0 r1 r2 r3 w).take i = bare r0 r1 r2 r3 (w.take i) := by unfold bare; rw [List.map_take]
theorem bare_snoc (r0 r1 r2 r3 : Nat) (l : List Nat) (c : Nat) : bare r0 r1 r2 r3 (l ++ [c]) = bare r0 r1 r2 r3 l ++ [if c ∈ [r0, r1, r2, r3] then [r2, c] else [c]] := by unfold bare; rw [List.map_append]; rfl
theorem accS_ne {l : List (List Nat)} (h : l ≠ []) : accS l = .strs l := by cases l with | nil => exact absurd rfl h | cons a l => rfl
theorem accS_snoc (l : List (List Nat)) (u : List Nat) : accS (l ++ [u]) = .strs (l ++ [u]) := accS_ne (by simp)
theorem spell_comp {x : Fx} (hx : x.Ok) (w : List Nat) (r0 r1 r2 r3 : Nat) (k : Int) (hw : w ≠ []) (hl : w.length < 1000000) (hN : x.env.scope.names = (cfgS (bare r0 r1 r2 r3 w)).N) :
    EvOk x C33 (spSt w r0 r1 r2 r3 k []) fun d' o => d' = .obj 1 ∧ o = spSt w r0 r1 r2 r3 k [.strs (bare r0 r1 r2 r3 w)] := by
  have hsz : 1000000 * 4 ≤ sizeLine := by decide
  have e : C33 = .ListComp (cElt C33) [⟨.Name (S "letter") (cTp C33), cIter C33, cIfs C33, 0⟩] (cScope C33) (cPos C33) := by kernel_rfl!
  rw [e]
  refine EvOk.comp (c := cfgS (bare r0 r1 r2 r3 w)) hx hN c33 1 w.length (.str w) (fun i σ => i ≤ w.length ∧ σ = spIo w r0 r1 r2 r3 i (accS (bare r0 r1 r2 r3 (w.take i)))) (by intro _; rfl) (by kernel_rfl!) (by kernel_rfl!) (by kernel_rfl!) ?_ ?_ ?_
  · refine ok_eq (t' := .ret (.str (w)) ⟨[(S "word", (.str (w))), (S "kind", (.int (k)))], [(S "roles", 0)], [(.cell (some (.str ([r0, r1, r2, r3]))))]⟩) (by kernel_rfl!) ?_
    refine ⟨rfl, rfl, by rfl, by rfl, rfl, rfl, ⟨0, rfl⟩, ⟨by omega, by rfl⟩, ?_⟩
    rintro i σ' ⟨hi, rfl⟩ hn
    have hn := item_str_none hn
    obtain rfl : i = w.length := by omega
    rw [List.take_length, accS_ne (by cases w with | nil => exact absurd rfl hw | cons a l => simp [bare])]
    exact ⟨[0, 2], 0, by rfl, by rfl, by rfl, by rfl, by rfl⟩
  · rintro i σ ⟨hi, rfl⟩; exact hi
  · rintro x' hx' i σ ⟨hi, rfl⟩
    refine ⟨rfl, rfl, fun d hd => ?_⟩
    obtain ⟨c, hc, rfl⟩ := item_str hd
    have hlt := (List.getElem?_eq_some_iff.mp hc).1
    have n4 : (0 : Int) ≤ 2 ∧ (2 : Int) < (([r0, r1, r2, r3].length : Nat) : Int) ∧ [r0, r1, r2, r3].length ≤ sizeLine := ⟨by decide, (by decide : (2 : Int) < 4), (by decide : 4 ≤ sizeLine)⟩
    have fin : ∀ {q u}, q = S "letter" → (if c ∈ [r0, r1, r2, r3] then [r2, c] else [c]) = u → Cut 3 ⟨[(q, .str [c])], [(S "roles", 0)], [(.cell (some (.str ([r0, r1, r2, r3])))), .it (.str w) (i + 1), (.strs (bare r0 r1 r2 r3 (w.take i) ++ [u]))]⟩ (fun σ => i + 1 ≤ w.length ∧ σ = spIo w r0 r1 r2 r3 (i + 1) (accS (bare r0 r1 r2 r3 (w.take (i + 1))))) := by
      rintro q u rfl rfl
      refine ⟨[0, 1, 2], 0, by rfl, hlt, ?_⟩
      rw [take_snoc hc, bare_snoc, accS_snoc]; rfl
    have ein : inS [c] [r0, r1, r2, r3] = decide (c ∈ [r0, r1, r2, r3]) := inS_one c _
    generalize hpre : bare r0 r1 r2 r3 (w.take i) = pre at fin ⊢
    have hpl : pre.length ≤ sizeLine := by rw [← hpre]; simp [bare]; omega
    cases pre with
    | nil =>
      refine ok_eq (t' := .br (inS [c] [r0, r1, r2, r3]) ( .need ((0 : Int) ≤ (2 : Int) ∧ (2 : Int) < (↑[r0, r1, r2, r3].length : Int) ∧ [r0, r1, r2, r3].length ≤ sizeLine) ( .need ([[r0, r1, r2, r3].getD (Int.toNat (2 : Int)) (0 : Nat)].length + [c].length ≤ sizeLine) ( .ret () ⟨[(S "letter", (.str ([c])))], [(S "roles", 0)], [(.cell (some (.str ([r0, r1, r2, r3])))), (AO.it (ItK.str w) (i + (1 : Nat))), (.strs ([[[r0, r1, r2, r3].getD (Int.toNat (2 : Int)) (0 : Nat)] ++ [c]]))]⟩))) ( .ret () ⟨[(S "letter", (.str ([c])))], [(S "roles", 0)], [(.cell (some (.str ([r0, r1, r2, r3])))), (AO.it (ItK.str w) (i + (1 : Nat))), (.strs ([[c]]))]⟩)) (by kernel_rfl!) ?_
      rw [ein]
      by_cases h : c ∈ [r0, r1, r2, r3]
      · exact ok_t (decide_eq_true h) (ok_need n4 (ok_need (by decide : 2 ≤ sizeLine) (fin rfl (if_pos h))))
      · exact ok_f (decide_eq_false h) (fin rfl (if_neg h))
    | cons y ys =>
      refine ok_eq (t' := (fun (xs : List (List Nat)) => (.br (inS [c] [r0, r1, r2, r3]) ( .need ((0 : Int) ≤ (2 : Int) ∧ (2 : Int) < (↑[r0, r1, r2, r3].length : Int) ∧ [r0, r1, r2, r3].length ≤ sizeLine) ( .need ([[r0, r1, r2, r3].getD (Int.toNat (2 : Int)) (0 : Nat)].length + [c].length ≤ sizeLine) ( .need (xs.length ≤ sizeLine) ( .ret () ⟨[(S "letter", (.str ([c])))], [(S "roles", 0)], [(.cell (some (.str ([r0, r1, r2, r3])))), (AO.it (ItK.str w) (i + (1 : Nat))), (.strs (xs ++ [[[r0, r1, r2, r3].getD (Int.toNat (2 : Int)) (0 : Nat)] ++ [c]]))]⟩)))) ( .need (xs.length ≤ sizeLine) ( .ret () ⟨[(S "letter", (.str ([c])))], [(S "roles", 0)], [(.cell (some (.str ([r0, r1, r2, r3])))), (AO.it (ItK.str w) (i + (1 : Nat))), (.strs (xs ++ [[c]]))]⟩)) : T Unit)) (y :: ys)) (by kernel_rfl!) ?_
      dsimp only
      rw [ein]
      by_cases h : c ∈ [r0, r1, r2, r3]
      · exact ok_t (decide_eq_true h) (ok_need n4 (ok_need (by decide : 2 ≤ sizeLine) (ok_need hpl (fin rfl (if_pos h)))))
      · exact ok_f (decide_eq_false h) (ok_need hpl (fin rfl (if_neg h)))
theorem spell_ok (wo : World) (n : Nat) (w : List Nat) (r0 r1 r2 r3 : Nat) (k : Int) (hl : w.length < 1000000) : CallOk wo (n + 1) 799 [.str w, .str [r0, r1, r2, r3], .int k] [] fun d o => d = .str (spell r0 r1 r2 r3 k w) ∧ o = [] := by
  have hsz : 1000000 * 4 ≤ sizeLine := by decide
  refine enterC (oc := .type "function") (fd := F799) (body := B33) (names := [S "word", S "roles", S "kind"]) [] [] .nil (by kernel_rfl!) (by kernel_rfl!) (by kernel_rfl!) (by kernel_rfl!) (by kernel_rfl!) (fun s vals _ h => match vals, h with | [a, b, c], _ => .of_eq (by kernel_rfl!)) fun x hx => ?_
  have hN : x.env.scope.names = (cfgS (bare r0 r1 r2 r3 w)).N := by rw [hx.sc]; kernel_rfl!
  refine ExOk.tree (c := cfgS (bare r0 r1 r2 r3 w)) hx.ok hN (n := 20) (ok_eq (t' := (fun (l : List (List Nat)) => (.br (decide (k = (2 : Int))) ( .need ((0 : Int) ≤ (3 : Int) ∧ (3 : Int) < (↑[r0, r1, r2, r3].length : Int) ∧ [r0, r1, r2, r3].length ≤ sizeLine) ( .br (!inS [[r0, r1, r2, r3].getD (Int.toNat (3 : Int)) (0 : Nat)] w) ( .need ((0 : Int) ≤ (3 : Int) ∧ (3 : Int) < (↑[r0, r1, r2, r3].length : Int) ∧ [r0, r1, r2, r3].length ≤ sizeLine) ( .need ([[r0, r1, r2, r3].getD (Int.toNat (3 : Int)) (0 : Nat)].length + w.length ≤ sizeLine) ( .need ((0 : Int) ≤ (3 : Int) ∧ (3 : Int) < (↑[r0, r1, r2, r3].length : Int) ∧ [r0, r1, r2, r3].length ≤ sizeLine) ( .need (([[r0, r1, r2, r3].getD (Int.toNat (3 : Int)) (0 : Nat)] ++ w).length +     [[r0, r1, r2, r3].getD (Int.toNat (3 : Int)) (0 : Nat)].length ≤   sizeLine) ( .ret (.ret (.str ([[r0, r1, r2, r3].getD (Int.toNat (3 : Int)) (0 : Nat)] ++ w ++ [[r0, r1, r2, r3].getD (Int.toNat (3 : Int)) (0 : Nat)]))) ⟨[(S "word", (.str (w))), (S "kind", (.int (k)))], [(S "roles", 0)], [(.cell (some (.str ([r0, r1, r2, r3]))))]⟩))))) ( .br (decide ((0 : Int) < k)) ( .need ((0 : Int) ≤ (1 : Int) ∧ (1 : Int) < (↑[r0, r1, r2, r3].length : Int) ∧ [r0, r1, r2, r3].length ≤ sizeLine) ( .need (w.length < (1000000 : Nat)) ( .call 794 [(.str (w)), (.str ([r0, r1, r2, r3]))] [] (.str (insW r1 r2 w)) [] ( .need ([[r0, r1, r2, r3].getD (Int.toNat (1 : Int)) (0 : Nat)].length + (insW r1 r2 w).length ≤ sizeLine) ( .need ((0 : Int) ≤ (1 : Int) ∧ (1 : Int) < (↑[r0, r1, r2, r3].length : Int) ∧ [r0, r1, r2, r3].length ≤ sizeLine) ( .need (([[r0, r1, r2, r3].getD (Int.toNat (1 : Int)) (0 : Nat)] ++ insW r1 r2 w).length +     [[r0, r1, r2, r3].getD (Int.toNat (1 : Int)) (0 : Nat)].length ≤   sizeLine) ( .ret (.ret (.str ([[r0, r1, r2, r3].getD (Int.toNat (1 : Int)) (0 : Nat)] ++ insW r1 r2 w ++   [[r0, r1, r2, r3].getD (Int.toNat (1 : Int)) (0 : Nat)]))) ⟨[(S "word", (.str (w))), (S "kind", (.int (k)))], [(S "roles", 0)], [(.cell (some (.str ([r0, r1, r2, r3]))))]⟩))))))) ( .br (decide (w = ([] : List Nat))) ( .need ((0 : Int) ≤ (1 : Int) ∧ (1 : Int) < (↑[r0, r1, r2, r3].length : Int) ∧ [r0, r1, r2, r3].length ≤ sizeLine) ( .need (w.length < (1000000 : Nat)) ( .call 794 [(.str (w)), (.str ([r0, r1, r2, r3]))] [] (.str (insW r1 r2 w)) [] ( .need ([[r0, r1, r2, r3].getD (Int.toNat (1 : Int)) (0 : Nat)].length + (insW r1 r2 w).length ≤ sizeLine) ( .need ((0 : Int) ≤ (1 : Int) ∧ (1 : Int) < (↑[r0, r1, r2, r3].length : Int) ∧ [r0, r1, r2, r3].length ≤ sizeLine) ( .need (([[r0, r1, r2, r3].getD (Int.toNat (1 : Int)) (0 : Nat)] ++ insW r1 r2 w).length +     [[r0, r1, r2, r3].getD (Int.toNat (1 : Int)) (0 : Nat)].length ≤   sizeLine) ( .ret (.ret (.str ([[r0, r1, r2, r3].getD (Int.toNat (1 : Int)) (0 : Nat)] ++ insW r1 r2 w ++   [[r0, r1, r2, r3].getD (Int.toNat (1 : Int)) (0 : Nat)]))) ⟨[(S "word", (.str (w))), (S "kind", (.int (k)))], [(S "roles", 0)], [(.cell (some (.str ([r0, r1, r2, r3]))))]⟩))))))) ( .ext C33 ⟨[(S "word", (.str (w))), (S "kind", (.int (k)))], [(S "roles", 0)], [(.cell (some (.str ([r0, r1, r2, r3]))))]⟩ (.obj 1) ⟨[(S "word", (.str (w))), (S "kind", (.int (k)))], [(S "roles", 0)], [(.cell (some (.str ([r0, r1, r2, r3])))), (.strs (l))]⟩ ( .need (strsW ([] : List Nat) l ≤ sizeLine) ( .ret (.ret (.str (glue ([] : List Nat) l))) ⟨[(S "word", (.str (w))), (S "kind", (.int (k)))], [(S "roles", 0)], [(.cell (some (.str ([r0, r1, r2, r3])))), (.strs (l))]⟩))))))) ( .br (decide ((0 : Int) < k)) ( .need ((0 : Int) ≤ (1 : Int) ∧ (1 : Int) < (↑[r0, r1, r2, r3].length : Int) ∧ [r0, r1, r2, r3].length ≤ sizeLine) ( .need (w.length < (1000000 : Nat)) ( .call 794 [(.str (w)), (.str ([r0, r1, r2, r3]))] [] (.str (insW r1 r2 w)) [] ( .need ([[r0, r1, r2, r3].getD (Int.toNat (1 : Int)) (0 : Nat)].length + (insW r1 r2 w).length ≤ sizeLine) ( .need ((0 : Int) ≤ (1 : Int) ∧ (1 : Int) < (↑[r0, r1, r2, r3].length : Int) ∧ [r0, r1, r2, r3].length ≤ sizeLine) ( .need (([[r0, r1, r2, r3].getD (Int.toNat (1 : Int)) (0 : Nat)] ++ insW r1 r2 w).length +     [[r0, r1, r2, r3].getD (Int.toNat (1 : Int)) (0 : Nat)].length ≤   sizeLine) ( .ret (.ret (.str ([[r0, r1, r2, r3].getD (Int.toNat (1 : Int)) (0 : Nat)] ++ insW r1 r2 w ++   [[r0, r1, r2, r3].getD (Int.toNat (1 : Int)) (0 : Nat)]))) ⟨[(S "word", (.str (w))), (S "kind", (.int (k)))], [(S "roles", 0)], [(.cell (some (.str ([r0, r1, r2, r3]))))]⟩))))))) ( .br (decide (w = ([] : List Nat))) ( .need ((0 : Int) ≤ (1 : Int) ∧ (1 : Int) < (↑[r0, r1, r2, r3].length : Int) ∧ [r0, r1, r2, r3].length ≤ sizeLine) ( .need (w.length < (1000000 : Nat)) ( .call 794 [(.str (w)), (.str ([r0, r1, r2, r3]))] [] (.str (insW r1 r2 w)) [] ( .need ([[r0, r1, r2, r3].getD (Int.toNat (1 : Int)) (0 : Nat)].length + (insW r1 r2 w).length ≤ sizeLine) ( .need ((0 : Int) ≤ (1 : Int) ∧ (1 : Int) < (↑[r0, r1, r2, r3].length : Int) ∧ [r0, r1, r2, r3].length ≤ sizeLine) ( .need (([[r0, r1, r2, r3].getD (Int.toNat (1 : Int)) (0 : Nat)] ++ insW r1 r2 w).length +     [[r0, r1, r2, r3].getD (Int.toNat (1 : Int)) (0 : Nat)].length ≤   sizeLine) ( .ret (.ret (.str ([[r0, r1, r2, r3].getD (Int.toNat (1 : Int)) (0 : Nat)] ++ insW r1 r2 w ++   [[r0, r1, r2, r3].getD (Int.toNat (1 : Int)) (0 : Nat)]))) ⟨[(S "word", (.str (w))), (S "kind", (.int (k)))], [(S "roles", 0)], [(.cell (some (.str ([r0, r1, r2, r3]))))]⟩))))))) ( .ext C33 ⟨[(S "word", (.str (w))), (S "kind", (.int (k)))], [(S "roles", 0)], [(.cell (some (.str ([r0, r1, r2, r3]))))]⟩ (.obj 1) ⟨[(S "word", (.str (w))), (S "kind", (.int (k)))], [(S "roles", 0)], [(.cell (some (.str ([r0, r1, r2, r3])))), (.strs (l))]⟩ ( .need (strsW ([] : List Nat) l ≤ sizeLine) ( .ret (.ret (.str (glue ([] : List Nat) l))) ⟨[(S "word", (.str (w))), (S "kind", (.int (k)))], [(S "roles", 0)], [(.cell (some (.str ([r0, r1, r2, r3])))), (.strs (l))]⟩))))) : T Fl)) (bare r0 r1 r2 r3 w)) (by kernel_rfl!) ?_)
  dsimp only
  have n3 : (0 : Int) ≤ 3 ∧ (3 : Int) < (([r0, r1, r2, r3].length : Nat) : Int) ∧ [r0, r1, r2, r3].length ≤ sizeLine := ⟨by decide, (by decide : (3 : Int) < 4), (by decide : 4 ≤ sizeLine)⟩
  have n1 : (0 : Int) ≤ 1 ∧ (1 : Int) < (([r0, r1, r2, r3].length : Nat) : Int) ∧ [r0, r1, r2, r3].length ≤ sizeLine := ⟨by decide, (by decide : (1 : Int) < 4), (by decide : 4 ≤ sizeLine)⟩
  have hi := insW_len r1 r2 w
  have l1 : ∀ a : Nat, [a].length + w.length ≤ sizeLine := fun a => by simp; omega
  have l2 : ∀ a b : Nat, ([a] ++ w).length + [b].length ≤ sizeLine := fun a b => by simp; omega
  have m1 : ∀ a : Nat, [a].length + (insW r1 r2 w).length ≤ sizeLine := fun a => by simp; omega
  have m2 : ∀ a b : Nat, ([a] ++ insW r1 r2 w).length + [b].length ≤ sizeLine := fun a b => by simp; omega
  have call : ∃ n', x.n = n' + 1 ∧ CallOk x.w n' 794 [.str w, .str [r0, r1, r2, r3]] [] fun d' o => d' = .str (insW r1 r2 w) ∧ o = [] := ⟨n, hx.n, ins_ok x.w n w r0 r1 r2 r3 hl⟩
  have ein : inS [r3] w = decide (r3 ∈ w) := inS_one r3 _
  have leaf : ∀ {d : List Nat} {o : List AO}, spell r0 r1 r2 r3 k w = d → closedN [] [.str d] (AO.cell (some (.str [r0, r1, r2, r3])) :: o) = true → retOf ([] : List AO).length (fun d o => d = .str (spell r0 r1 r2 r3 k w) ∧ o = []) (.ret (.str d)) ⟨[(S "word", .str w), (S "kind", .int k)], [(S "roles", 0)], AO.cell (some (.str [r0, r1, r2, r3])) :: o⟩ := by
    rintro d o rfl h
    exact ⟨[], by rfl, h, rfl, rfl⟩
  have hst : w ≠ [] → EvOk x C33 (spSt w r0 r1 r2 r3 k []) (fun d' o => d' = .obj 1 ∧ o = spSt w r0 r1 r2 r3 k [.strs (bare r0 r1 r2 r3 w)]) := fun hw => spell_comp hx.ok w r0 r1 r2 r3 k hw hl hN
  have sw : strsW ([] : List Nat) (bare r0 r1 r2 r3 w) ≤ sizeLine := by
    unfold strsW
    have := bare_len r0 r1 r2 r3 w
    simp; omega
  by_cases hk : k = 2
  · refine ok_t (decide_eq_true hk) (ok_need n3 ?_)
    by_cases hr : r3 ∈ w
    · refine ok_f (show (!inS [r3] w) = false by rw [ein, decide_eq_true hr]; rfl) (ok_t (decide_eq_true (by omega)) (ok_need n1 (ok_need hl ⟨call, ok_need (m1 _) (ok_need n1 (ok_need (m2 _ _) (leaf ?_ (by rfl))))⟩)))
      rw [spell, if_neg (fun q => q.2 hr), if_pos (.inl (by omega))]; rfl
    · refine ok_t (show (!inS [r3] w) = true by rw [ein, decide_eq_false hr]; rfl) (ok_need n3 (ok_need (l1 _) (ok_need n3 (ok_need (l2 _ _) (leaf ?_ (by rfl))))))
      rw [spell, if_pos ⟨hk, hr⟩]; rfl
  · refine ok_f (decide_eq_false hk) ?_
    by_cases hp : 0 < k
    · refine ok_t (decide_eq_true hp) (ok_need n1 (ok_need hl ⟨call, ok_need (m1 _) (ok_need n1 (ok_need (m2 _ _) (leaf ?_ (by rfl))))⟩))
      rw [spell, if_neg (fun q => hk q.1), if_pos (.inl hp)]; rfl
    · refine ok_f (decide_eq_false hp) ?_
      by_cases hw : w = []
      · refine ok_t (decide_eq_true hw) (ok_need n1 (ok_need hl ⟨call, ok_need (m1 _) (ok_need n1 (ok_need (m2 _ _) (leaf ?_ (by rfl))))⟩))
        rw [spell, if_neg (fun q => hk q.1), if_pos (.inr hw)]; rfl
      · refine ok_f (decide_eq_false hw) ⟨hst hw, ok_need sw (leaf ?_ (by rfl))⟩
        rw [spell, if_neg (fun q => hk q.1), if_neg (fun q => q.elim hp hw)]
end
end Mine
namespace Mine
noncomputable section
noncomputable def wordOf (x : Int) : List Nat := (ap x.natAbs).map UInt8.toNat
noncomputable def spelt (r0 r1 r2 r3 : Nat) (turn : Int) (ws : List (List Nat)) (i : Nat) : List Nat := spell r0 r1 r2 r3 (((0 : Int) + (i : Nat) + turn).fmod 3) (ws.getD ((0 : Int) + (i : Nat)).toNat [])
noncomputable def speltL (r0 r1 r2 r3 : Nat) (turn : Int) (ws : List (List Nat)) : List (List Nat) := (List.range ws.length).map (spelt r0 r1 r2 r3 turn ws)
noncomputable def laidN (r0 r1 r2 r3 : Nat) (turn : Int) (xs : List Int) : List Nat := 66 :: glue [r0] (speltL r0 r1 r2 r3 turn (xs.map wordOf))
noncomputable def spLd : Specs := fun a args os => match Nat.beq a 775, Nat.beq a 799, Nat.beq a 787, args, os with
  | true, _, _, [.int z], [] => .need ((ap z.natAbs).length ≤ 1000) (.done (.bytes (ap z.natAbs)) [])
  | _, true, _, [.str w, .str [r0, r1, r2, r3], .int k], [] => .need (w.length < 1000000) (.done (.str (spell r0 r1 r2 r3 k w)) [])
  | _, _, true, [.str w], [] => .need (∀ c ∈ w, 65 ≤ c ∧ c ≤ 80) (.done (.int (rd w 0)) [])
  | _, _, _, _, _ => .bad
noncomputable abbrev B34 : List Stmt := bodyOf (topSt 34)
noncomputable abbrev C34a : Expr := asgE (st1 B34 0)
noncomputable abbrev C34b : Expr := asgE (st1 B34 1)
noncomputable abbrev g34 : Cfg := cfg spLd (topSt 34)
noncomputable abbrev c34a : Cfg := ⟨spLd, noCp, relabN g34.N (cScope C34a).names⟩
noncomputable abbrev c34b : Cfg := ⟨spLd, noCp, relabN g34.N (cScope C34b).names⟩
noncomputable def ldCel : List (Str × Nat) := [(S "roles", 1), (S "turn", 2), (S "words", 3)]
noncomputable def ldOs (xs : List Int) (r0 r1 r2 r3 : Nat) (tu : Int) (wd : Option D) (os : List AO) : List AO := [.ints xs, .cell (some (.str [r0, r1, r2, r3])), .cell (some (.int tu)), .cell wd] ++ os
noncomputable def ldSt (xs : List Int) (r0 r1 r2 r3 : Nat) (tu : Int) (wd : Option D) (os : List AO) : St := ⟨[(S "heap", .obj 0)], ldCel, ldOs xs r0 r1 r2 r3 tu wd os⟩
noncomputable def ldIn (xs : List Int) (r0 r1 r2 r3 : Nat) (tu : Int) (wd : Option D) (os : List AO) : St := ⟨[], celN ldCel (cScope C34b).names, ldOs xs r0 r1 r2 r3 tu wd os⟩
noncomputable def ldIa (xs : List Int) (r0 r1 r2 r3 : Nat) (tu : Int) (os : List AO) : St := ⟨[], [], ldOs xs r0 r1 r2 r3 tu none os⟩
noncomputable def ldEnd (xs : List Int) (r0 r1 r2 r3 : Nat) (tu : Int) (os : List AO) : St := ⟨[(S "heap", .obj 0), (S "spelled", .obj 6)], ldCel, ldOs xs r0 r1 r2 r3 tu (some (.obj 4)) os⟩
theorem ap_chars (n : Nat) : ∀ c ∈ ap n, 65 ≤ c.toNat ∧ c.toNat ≤ 80 := by
  induction n using Nat.strongRecOn with
  | ind n ih =>
    rw [ap]
    split
    · intro c hc; cases hc
    · intro c hc
      rcases List.mem_append.mp hc with hc | hc
      · exact ih (n / 16) (by omega) c hc
      · rw [List.mem_singleton.mp hc]
        have : n % 16 < 16 := Nat.mod_lt _ (by decide)
        rw [UInt8.toNat_ofNat']
        omega
theorem ap_ascii (n : Nat) (h : (ap n).length ≤ 1000) : asciiOk (ap n) := ⟨fun c hc => by have := ap_chars n c hc; omega, Nat.le_trans h (by decide)⟩
theorem glue_len (sep : List Nat) : ∀ xs : List (List Nat), (glue sep xs).length ≤ strsW sep xs := by
  have key : ∀ (xs : List (List Nat)) (acc : List Nat), (xs.foldl (fun acc p => acc ++ sep ++ p) acc).length = acc.length + (xs.map List.length).sum + xs.length * sep.length := by
    intro xs
    induction xs with
    | nil => intro acc; simp
    | cons x r ih =>
      intro acc
      rw [List.foldl_cons, ih]
      simp [Nat.add_mul] <;> omega
  intro xs
  unfold glue strsW
  cases xs with
  | nil => simp
  | cons x r =>
    rw [key]
    simp [Nat.add_mul] <;> omega
theorem spell_len (r0 r1 r2 r3 : Nat) (k : Int) (w : List Nat) : (spell r0 r1 r2 r3 k w).length ≤ 2 * w.length + 2 := by
  unfold spell
  have := insW_len r1 r2 w
  split
  · simp; omega
  · split
    · simp; omega
    · have h1 := glue_len [] (bare r0 r1 r2 r3 w)
      have h2 := bare_len r0 r1 r2 r3 w
      unfold strsW at h1
      simp at h1; omega
theorem sum_le {b : Nat} : ∀ {l : List Nat}, (∀ x ∈ l, x ≤ b) → l.sum ≤ l.length * b
  | [], _ => by simp
  | x :: r, h => by
    have h1 := h x (.head _)
    have h2 := sum_le fun y hy => h y (.tail _ hy)
    rw [List.sum_cons, List.length_cons, Nat.add_mul]; omega
theorem getD_len {ws : List (List Nat)} (h : ∀ w ∈ ws, w.length ≤ 1000) (i : Nat) : (ws.getD i []).length ≤ 1000 := by
  unfold List.getD
  cases e : ws[i]? with
  | none => simp
  | some w => exact h w (List.mem_of_getElem? e)
theorem spelt_w {r0 r1 r2 r3 : Nat} {tu : Int} {ws : List (List Nat)} (h : ∀ w ∈ ws, w.length ≤ 1000) (hn : ws.length ≤ 100) : strsW [r0] (speltL r0 r1 r2 r3 tu ws) ≤ 300000 := by
  unfold strsW speltL
  rw [List.map_map]
  have h1 : ((List.range ws.length).map (List.length ∘ spelt r0 r1 r2 r3 tu ws)).sum ≤ ((List.range ws.length).map (List.length ∘ spelt r0 r1 r2 r3 tu ws)).length * 2002 := sum_le fun x hx => by
    obtain ⟨i, _, rfl⟩ := List.mem_map.mp hx
    have := spell_len r0 r1 r2 r3 (((0 : Int) + (i : Nat) + tu).fmod 3) (ws.getD ((0 : Int) + (i : Nat)).toNat [])
    have := getD_len h ((0 : Int) + (i : Nat)).toNat
    show (spelt r0 r1 r2 r3 tu ws i).length ≤ _
    unfold spelt
    omega
  simp at h1 ⊢
  omega
theorem item_ints {j : Nat} {os : List AO} {xs : List Int} {i : Nat} {d : D} (ho : os[j]? = some (.ints xs)) (h : itemOf (.list j) os i = some d) : ∃ z, xs[i]? = some z ∧ d = .int z := by
  have h : (match os[j]? with | some (.ints xs) => xs[i]?.map D.int | some (.strs xs) => xs[i]?.map D.str | _ => none) = some d := h
  rw [ho] at h
  obtain ⟨z, h1, h2⟩ := Option.map_eq_some_iff.mp h
  exact ⟨z, h1, h2.symm⟩
theorem item_ints_none {j : Nat} {os : List AO} {xs : List Int} {i : Nat} (ho : os[j]? = some (.ints xs)) (h : itemOf (.list j) os i = none) : xs.length ≤ i := by
  have h : (match os[j]? with | some (.ints xs) => xs[i]?.map D.int | some (.strs xs) => xs[i]?.map D.str | _ => none) = none := h
  rw [ho] at h
  have h : xs[i]?.map D.int = none := h
  rw [Option.map_eq_none_iff] at h
  exact List.getElem?_eq_none_iff.mp h
section
variable {x : Fx} (xs : List Int) (r0 r1 r2 r3 : Nat) (tu : Int)
theorem ld_words (hx : x.Ok) {n : Nat} (hn : x.n = n + 1) (hN : x.env.scope.names = g34.N) (hl : xs.length ≤ 100) (hw : ∀ z ∈ xs, (ap z.natAbs).length ≤ 1000) :
    EvOk x C34a (ldSt xs r0 r1 r2 r3 tu none []) fun d' o => d' = .obj 4 ∧ o = ldSt xs r0 r1 r2 r3 tu none [accS (xs.map wordOf)] := by
  have hsz : 1000000 * 4 ≤ sizeLine := by decide
  have e : C34a = .ListComp (cElt C34a) [⟨.Name (S "item") (cTp C34a), cIter C34a, cIfs C34a, 0⟩] (cScope C34a) (cPos C34a) := by kernel_rfl!
  rw [e]
  refine EvOk.comp (c := g34) hx hN c34a 4 xs.length (.list 0) (fun i σ => i ≤ xs.length ∧ σ = ldIa xs r0 r1 r2 r3 tu [.it (.list 0) i, accS ((xs.take i).map wordOf)]) (by intro _; rfl) (by kernel_rfl!) (by kernel_rfl!) (by kernel_rfl!) ?_ ?_ ?_
  · refine ok_eq (t' := .ret (.obj 0) ⟨[(S "heap", (.obj 0))], [(S "roles", 1), (S "turn", 2), (S "words", 3)], [(.ints (xs)), (.cell (some (.str ([r0, r1, r2, r3])))), (.cell (some (.int (tu)))), (.cell none)]⟩) (by kernel_rfl!) ?_
    refine ⟨rfl, rfl, by rfl, by rfl, rfl, rfl, ⟨0, rfl⟩, ⟨by omega, by rfl⟩, ?_⟩
    rintro i σ' ⟨hi, rfl⟩ h
    have h := item_ints_none (xs := xs) rfl h
    obtain rfl : i = xs.length := by omega
    rw [List.take_length]
    refine ⟨[0, 1, 2, 3, 5], 0, ?_, by rfl, by rfl, by rfl, ?_⟩
    · cases xs.map wordOf <;> rfl
    · cases xs.map wordOf <;> rfl
  · rintro i σ ⟨hi, rfl⟩; exact hi
  · rintro x' hx' i σ ⟨hi, rfl⟩
    refine ⟨rfl, rfl, fun d hd => ?_⟩
    obtain ⟨z, hz, rfl⟩ := item_ints (xs := xs) rfl hd
    have hlt := (List.getElem?_eq_some_iff.mp hz).1
    have hzw := hw z (List.mem_of_getElem? hz)
    have call : ∃ n', x'.n = n' + 1 ∧ CallOk x'.w n' 775 [.int z] [] fun d' o => d' = .bytes (ap z.natAbs) ∧ o = [] := ⟨n, by rw [hx'.n, hn], ap_ok _ n z (by omega)⟩
    have fin : ∀ {q}, q = S "item" → Cut 6 ⟨[(q, .int z)], [], [.ints xs, .cell (some (.str [r0, r1, r2, r3])), .cell (some (.int tu)), .cell none, .it (.list 0) (i + 1), .strs ((xs.take i).map wordOf ++ [(ap z.natAbs).map UInt8.toNat])]⟩ (fun σ => i + 1 ≤ xs.length ∧ σ = ldIa xs r0 r1 r2 r3 tu [.it (.list 0) (i + 1), accS ((xs.take (i + 1)).map wordOf)]) := by
      rintro q rfl
      refine ⟨[0, 1, 2, 3, 4, 5], 0, by rfl, hlt, ?_⟩
      rw [take_snoc hz, List.map_append, List.map_singleton, accS_snoc]; rfl
    have n1 : isAscii ([97, 115, 99, 105, 105] : List Nat) ∧ asciiOk (ap z.natAbs) := ⟨rfl, ap_ascii _ hzw⟩
    generalize hpre : (xs.take i).map wordOf = pre at fin ⊢
    have hpl : pre.length ≤ sizeLine := by rw [← hpre]; simp; omega
    cases pre with
    | nil =>
      refine ok_eq (t' := .need ((ap z.natAbs).length ≤ (1000 : Nat)) ( .call 775 [(.int (z))] [] (.bytes (ap z.natAbs)) [] ( .need (isAscii ([97, 115, 99, 105, 105] : List Nat) ∧ asciiOk (ap z.natAbs)) ( .ret () ⟨[(S "item", (.int (z)))], [], [(.ints (xs)), (.cell (some (.str ([r0, r1, r2, r3])))), (.cell (some (.int (tu)))), (.cell none), (AO.it (ItK.list (0 : Nat)) (i + (1 : Nat))), (.strs ([List.map UInt8.toNat (ap z.natAbs)]))]⟩)))) (by kernel_rfl!) ?_
      exact ok_need hzw ⟨call, ok_need n1 (fin rfl)⟩
    | cons y l =>
      refine ok_eq (t' := (fun (ys : List (List Nat)) => (.need ((ap z.natAbs).length ≤ (1000 : Nat)) ( .call 775 [(.int (z))] [] (.bytes (ap z.natAbs)) [] ( .need (isAscii ([97, 115, 99, 105, 105] : List Nat) ∧ asciiOk (ap z.natAbs)) ( .need (ys.length ≤ sizeLine) ( .ret () ⟨[(S "item", (.int (z)))], [], [(.ints (xs)), (.cell (some (.str ([r0, r1, r2, r3])))), (.cell (some (.int (tu)))), (.cell none), (AO.it (ItK.list (0 : Nat)) (i + (1 : Nat))), (.strs (ys ++ [List.map UInt8.toNat (ap z.natAbs)]))]⟩)))) : T Unit)) (y :: l)) (by kernel_rfl!) ?_
      exact ok_need hzw ⟨call, ok_need n1 (ok_need hpl (fin rfl))⟩
theorem acc_cases (l : List (List Nat)) : accS l = .ints [] ∨ ∃ m, accS l = .strs m := by
  cases l with
  | nil => exact .inl rfl
  | cons y r => exact .inr ⟨_, rfl⟩
theorem swaps_eq (hx : x.Ok) {N : List (Str × NameKind)} (hN : x.env.scope.names = N) (v : Expr) (t : Str) (p : Pos) (l : Nat) : swapsWith v (some (.Name t p)) l x.env = swapsWith v (some (.Name t p)) l (envOf N) := by
  have h1 : x.env.blockKind = (envOf N).blockKind := by unfold Env.blockKind; rw [hx.kind]; rfl
  have h2 : x.env.kindOf t = (envOf N).kindOf t := by unfold Env.kindOf; rw [hN]; rfl
  delta swapsWith
  dsimp only
  rw [h1, h2]
theorem ld_spelled (hx : x.Ok) {n : Nat} (hn : x.n = n + 2) (hN : x.env.scope.names = g34.N) (ws : List (List Nat)) (hl : ws.length ≤ 100) (hw : ∀ w ∈ ws, w.length ≤ 1000) {P : Fl → St → Prop}
    (h : P .next (ldEnd xs r0 r1 r2 r3 tu [accS ws, .rng 0 ws.length, accS (speltL r0 r1 r2 r3 tu ws)])) : ExOk x [st1 B34 1] (ldSt xs r0 r1 r2 r3 tu (some (.obj 4)) [accS ws]) P := by
  have hsz : 1000000 * 4 ≤ sizeLine := by decide
  have e : [st1 B34 1] = [.Assign [.Name (S "spelled") (tgtPos (st1 B34 1))] (.ListComp (cElt C34b) [⟨.Name (S "i") (cTp C34b), cIter C34b, cIfs C34b, 0⟩] (cScope C34b) (cPos C34b)) (stPos (st1 B34 1))] := by kernel_rfl!
  rw [e]
  refine ExOk.comp (c := g34) hx hN c34b 6 ws.length (.range 0 ((ws.length : Int) - 0).toNat) (fun i σ => i ≤ ws.length ∧ σ = ldIn xs r0 r1 r2 r3 tu (some (.obj 4)) [accS ws, .rng 0 ws.length, .it (.range 0 ((ws.length : Int) - 0).toNat) i, accS ((speltL r0 r1 r2 r3 tu ws).take i)])
    ((swaps_eq hx hN _ _ _ _).trans (by kernel_rfl!)) (by kernel_rfl!) (by intro _; rfl) (by kernel_rfl!) (by kernel_rfl!) (by kernel_rfl!) ?_ ?_ ?_
  · have main : ok x (T.need (ws.length ≤ sizeLine) (T.ret (D.obj 5) (ldSt xs r0 r1 r2 r3 tu (some (.obj 4)) [accS ws, .rng 0 ws.length]))) fun d0 σ1 => ok x (iterM d0 σ1) fun d σ2 => d = .obj 6 ∧ σ1.objs.length = 6 ∧ σ2.objs.length = 6 + 1 ∧ locBelow 6 σ1 = true ∧ σ2.loc = σ1.loc ∧ σ2.cel = σ1.cel ∧
        (∃ i, σ2.objs[6]? = some (.it (.range 0 ((ws.length : Int) - 0).toNat) i)) ∧ (0 ≤ ws.length ∧ (⟨[], celN σ1.cel (cScope C34b).names, σ2.objs ++ [.ints []]⟩ : St) = ldIn xs r0 r1 r2 r3 tu (some (.obj 4)) [accS ws, .rng 0 ws.length, .it (.range 0 ((ws.length : Int) - 0).toNat) 0, accS ((speltL r0 r1 r2 r3 tu ws).take 0)]) ∧
        ∀ i σ', (i ≤ ws.length ∧ σ' = ldIn xs r0 r1 r2 r3 tu (some (.obj 4)) [accS ws, .rng 0 ws.length, .it (.range 0 ((ws.length : Int) - 0).toNat) i, accS ((speltL r0 r1 r2 r3 tu ws).take i)]) → itemOf (.range 0 ((ws.length : Int) - 0).toNat) σ'.objs i = none → ∃ ids n, cutOk 6 ids n σ' = true ∧ memN ids 6 = false ∧ memN ids (6 + 1) = true ∧ P .next ⟨put (S "spelled") (.obj (Mine.pos ids (6 + 1))) σ1.loc, σ1.cel, subO σ'.objs ids⟩ := by
      refine ⟨by omega, small_one (by decide) (by decide) (by omega) (by omega), rfl, rfl, by rfl, by rfl, rfl, rfl, ⟨0, rfl⟩, ⟨by omega, by rfl⟩, ?_⟩
      rintro i σ' ⟨hi, rfl⟩ hq
      have hq := item_rng_none hq
      obtain rfl : i = ws.length := by omega
      have ht : (speltL r0 r1 r2 r3 tu ws).take ws.length = speltL r0 r1 r2 r3 tu ws := List.take_of_length_le (by unfold speltL; simp)
      rw [ht]
      have fin : ∀ o o' : AO, o = accS ws → o' = accS (speltL r0 r1 r2 r3 tu ws) → o.refs = [] → o'.refs = [] → o.ren (pos [0, 1, 2, 3, 4, 5, 7]) = o → o'.ren (pos [0, 1, 2, 3, 4, 5, 7]) = o' → ∃ ids n, cutOk 6 ids n (ldIn xs r0 r1 r2 r3 tu (some (.obj 4)) [o, .rng 0 ws.length, .it (.range 0 ((ws.length : Int) - 0).toNat) ws.length, o']) = true ∧ memN ids 6 = false ∧ memN ids (6 + 1) = true ∧
          P .next ⟨put (S "spelled") (.obj (Mine.pos ids (6 + 1))) [(S "heap", .obj 0)], ldCel, subO (ldIn xs r0 r1 r2 r3 tu (some (.obj 4)) [o, .rng 0 ws.length, .it (.range 0 ((ws.length : Int) - 0).toNat) ws.length, o']).objs ids⟩ := by
        rintro o o' rfl rfl q1 q2 q3 q4
        refine ⟨[0, 1, 2, 3, 4, 5, 7], 0, ?_, by rfl, by rfl, ?_⟩
        · rcases acc_cases ws with g1 | ⟨l1, g1⟩ <;> rcases acc_cases (speltL r0 r1 r2 r3 tu ws) with g2 | ⟨l2, g2⟩ <;> rw [g1, g2] <;> rfl
        · have : subO (ldIn xs r0 r1 r2 r3 tu (some (.obj 4)) [accS ws, .rng 0 ws.length, .it (.range 0 ((ws.length : Int) - 0).toNat) ws.length, accS (speltL r0 r1 r2 r3 tu ws)]).objs [0, 1, 2, 3, 4, 5, 7] = ldOs xs r0 r1 r2 r3 tu (some (.obj 4)) [(accS ws).ren (pos [0, 1, 2, 3, 4, 5, 7]), .rng 0 ws.length, (accS (speltL r0 r1 r2 r3 tu ws)).ren (pos [0, 1, 2, 3, 4, 5, 7])] := by rfl
          rw [this, q3, q4]
          exact h
      refine fin (accS ws) (accS (speltL r0 r1 r2 r3 tu ws)) rfl rfl ?_ ?_ ?_ ?_
      · cases ws <;> rfl
      · cases speltL r0 r1 r2 r3 tu ws <;> rfl
      · cases ws <;> rfl
      · cases speltL r0 r1 r2 r3 tu ws <;> rfl
    cases ws with
    | nil => exact ok_eq (t' := .need (([] : List Nat).length ≤ sizeLine) ( .ret (.obj 5) ⟨[(S "heap", (.obj 0))], [(S "roles", 1), (S "turn", 2), (S "words", 3)], [(.ints (xs)), (.cell (some (.str ([r0, r1, r2, r3])))), (.cell (some (.int (tu)))), (.cell (some (.obj 4))), (.ints ([])), (AO.rng (0 : Int) (↑([] : List Nat).length : Int))]⟩)) (by kernel_rfl!) main
    | cons y l => exact ok_eq (t' := (fun (ws : List (List Nat)) => (.need (ws.length ≤ sizeLine) ( .ret (.obj 5) ⟨[(S "heap", (.obj 0))], [(S "roles", 1), (S "turn", 2), (S "words", 3)], [(.ints (xs)), (.cell (some (.str ([r0, r1, r2, r3])))), (.cell (some (.int (tu)))), (.cell (some (.obj 4))), (.strs (ws)), (AO.rng (0 : Int) (↑ws.length : Int))]⟩) : T D)) (y :: l)) (by kernel_rfl!) main
  · rintro i σ ⟨hi, rfl⟩; exact hi
  · rintro x' hx' i σ ⟨hi, rfl⟩
    refine ⟨rfl, rfl, fun d hd => ?_⟩
    obtain ⟨hlt, rfl⟩ := item_rng hd
    have hlt : i < ws.length := by omega
    have ej : ((0 : Int) + (i : Nat)).toNat = i := by omega
    have hwl := getD_len hw ((0 : Int) + (i : Nat)).toNat
    have call : ∃ n', x'.n = n' + 1 ∧ CallOk x'.w n' 799 [.str (ws.getD ((0 : Int) + (i : Nat)).toNat []), .str [r0, r1, r2, r3], .int (((0 : Int) + (i : Nat) + tu).fmod 3)] [] fun d' o => d' = .str (spelt r0 r1 r2 r3 tu ws i) ∧ o = [] := ⟨n + 1, by rw [hx'.n, hn], spell_ok _ n _ r0 r1 r2 r3 _ (by omega)⟩
    have n1 : (0 : Int) ≤ (0 : Int) + (i : Nat) ∧ (0 : Int) + (i : Nat) < (ws.length : Int) ∧ ws.length ≤ sizeLine := ⟨by omega, by omega, by omega⟩
    have get : (speltL r0 r1 r2 r3 tu ws)[i]? = some (spelt r0 r1 r2 r3 tu ws i) := by unfold speltL; rw [List.getElem?_map, List.getElem?_range hlt]; rfl
    obtain ⟨y, l, rfl⟩ : ∃ y l, ws = y :: l := by cases ws with | nil => simp at hlt | cons y l => exact ⟨y, l, rfl⟩
    have fin : ∀ {q}, q = S "i" → Cut 8 ⟨[(q, .int (0 + (i : Nat)))], celN ldCel (cScope C34b).names, ldOs xs r0 r1 r2 r3 tu (some (.obj 4)) [.strs (y :: l), .rng 0 (y :: l).length, .it (.range 0 (((y :: l).length : Int) - 0).toNat) (i + 1), .strs ((speltL r0 r1 r2 r3 tu (y :: l)).take i ++ [spelt r0 r1 r2 r3 tu (y :: l) i])]⟩ (fun σ => i + 1 ≤ (y :: l).length ∧ σ = ldIn xs r0 r1 r2 r3 tu (some (.obj 4)) [accS (y :: l), .rng 0 (y :: l).length, .it (.range 0 (((y :: l).length : Int) - 0).toNat) (i + 1), accS ((speltL r0 r1 r2 r3 tu (y :: l)).take (i + 1))]) := by
      rintro q rfl
      refine ⟨[0, 1, 2, 3, 4, 5, 6, 7], 0, by rfl, hlt, ?_⟩
      rw [take_snoc get, accS_snoc]; rfl
    generalize hpre : (speltL r0 r1 r2 r3 tu (y :: l)).take i = pre at fin ⊢
    have hpl : pre.length ≤ sizeLine := by rw [← hpre]; simp [speltL]; simp at hl; omega
    cases pre with
    | nil =>
      refine ok_eq (t' := (fun (ws : List (List Nat)) (n : Nat) => (.need ((0 : Int) ≤ (0 : Int) + (↑i : Int) ∧ (0 : Int) + (↑i : Int) < (↑ws.length : Int) ∧ ws.length ≤ sizeLine) ( .need ((3 : Int) ≠ (0 : Int)) ( .need ((ws.getD ((0 : Int) + (↑i : Int)).toNat []).length < (1000000 : Nat)) ( .call 799 [(.str (ws.getD ((0 : Int) + (↑i : Int)).toNat [])), (.str ([r0, r1, r2, r3])), (.int (((0 : Int) + (↑i : Int) + tu).fmod (3 : Int)))] [] (.str (spell r0 r1 r2 r3 (((0 : Int) + (↑i : Int) + tu).fmod (3 : Int)) (ws.getD ((0 : Int) + (↑i : Int)).toNat []))) [] ( .ret () ⟨[(S "i", (.int ((0 : Int) + (↑i : Int))))], [(S "roles", 1), (S "turn", 2), (S "words", 3)], [(.ints (xs)), (.cell (some (.str ([r0, r1, r2, r3])))), (.cell (some (.int (tu)))), (.cell (some (.obj 4))), (.strs (ws)), (AO.rng (0 : Int) (↑n : Int)), (AO.it (ItK.range (0 : Int) n) (i + (1 : Nat))), (.strs ([spell r0 r1 r2 r3 (((0 : Int) + (↑i : Int) + tu).fmod (3 : Int)) (ws.getD ((0 : Int) + (↑i : Int)).toNat [])]))]⟩)))) : T Unit)) (y :: l) ((y :: l).length : Int).toNat) (by kernel_rfl!) ?_
      exact ok_need n1 (ok_need (by decide) (ok_need (by omega) ⟨call, fin rfl⟩))
    | cons y' l' =>
      refine ok_eq (t' := (fun (ws ys : List (List Nat)) (n : Nat) => (.need ((0 : Int) ≤ (0 : Int) + (↑i : Int) ∧ (0 : Int) + (↑i : Int) < (↑ws.length : Int) ∧ ws.length ≤ sizeLine) ( .need ((3 : Int) ≠ (0 : Int)) ( .need ((ws.getD ((0 : Int) + (↑i : Int)).toNat []).length < (1000000 : Nat)) ( .call 799 [(.str (ws.getD ((0 : Int) + (↑i : Int)).toNat [])), (.str ([r0, r1, r2, r3])), (.int (((0 : Int) + (↑i : Int) + tu).fmod (3 : Int)))] [] (.str (spell r0 r1 r2 r3 (((0 : Int) + (↑i : Int) + tu).fmod (3 : Int)) (ws.getD ((0 : Int) + (↑i : Int)).toNat []))) [] ( .need (ys.length ≤ sizeLine) ( .ret () ⟨[(S "i", (.int ((0 : Int) + (↑i : Int))))], [(S "roles", 1), (S "turn", 2), (S "words", 3)], [(.ints (xs)), (.cell (some (.str ([r0, r1, r2, r3])))), (.cell (some (.int (tu)))), (.cell (some (.obj 4))), (.strs (ws)), (AO.rng (0 : Int) (↑n : Int)), (AO.it (ItK.range (0 : Int) n) (i + (1 : Nat))), (.strs (ys ++ [spell r0 r1 r2 r3 (((0 : Int) + (↑i : Int) + tu).fmod (3 : Int)) (ws.getD ((0 : Int) + (↑i : Int)).toNat [])]))]⟩))))) : T Unit)) (y :: l) (y' :: l') ((y :: l).length : Int).toNat) (by kernel_rfl!) ?_
      exact ok_need n1 (ok_need (by decide) (ok_need (by omega) ⟨call, ok_need hpl (fin rfl)⟩))
end
theorem laid_ok (w : World) (n : Nat) (xs : List Int) (r0 r1 r2 r3 : Nat) (tu : Int) (hl : xs.length ≤ 100) (hw : ∀ z ∈ xs, (ap z.natAbs).length ≤ 1000) (hc : ∀ c ∈ laidN r0 r1 r2 r3 tu xs, 65 ≤ c ∧ c ≤ 80) :
    CallOk w (n + 2) 804 [.obj 0, .str [r0, r1, r2, r3], .int tu] [.ints xs] fun d o => d = .int (rd (laidN r0 r1 r2 r3 tu xs) 0) ∧ o = [.ints xs] := by
  have hsz : 1000000 * 4 ≤ sizeLine := by decide
  refine enterC (oc := .type "function") (fd := F804) (body := [st1 B34 0] ++ ([st1 B34 1] ++ B34.drop 2)) (names := [S "heap", S "roles", S "turn"]) [] [] .nil (by kernel_rfl!) (by kernel_rfl!) (by kernel_rfl!) (by kernel_rfl!) (by kernel_rfl!) (fun s vals _ h => match vals, h with | [a, b, c], _ => .of_eq (by kernel_rfl!)) fun x hx => ?_
  have hN : x.env.scope.names = g34.N := by rw [hx.sc]; kernel_rfl!
  have e0 : [st1 B34 0] = [.Assign [.Name (S "words") (tgtPos (st1 B34 0))] C34a (stPos (st1 B34 0))] := by kernel_rfl!
  have hws : (xs.map wordOf).length ≤ 100 := by simp; exact hl
  have hww : ∀ u ∈ xs.map wordOf, u.length ≤ 1000 := fun u hu => by
    obtain ⟨z, hz, rfl⟩ := List.mem_map.mp hu
    unfold wordOf
    rw [List.length_map]; exact hw z hz
  rw [e0]
  refine ExOk.app (ExOk.assignEv (c := g34) hx.ok hN ((swaps_eq hx.ok hN _ _ _ _).trans (by kernel_rfl!)) ((ld_words xs r0 r1 r2 r3 tu hx.ok hx.n hN hl hw).mono ?_))
  rintro d σ ⟨rfl, rfl⟩
  refine ok_eq (t' := .ret () (ldSt xs r0 r1 r2 r3 tu (some (.obj 4)) [accS (xs.map wordOf)])) (by kernel_rfl!) ?_
  refine ExOk.app (ld_spelled xs r0 r1 r2 r3 tu hx.ok hx.n hN _ hws hww ?_)
  have n0 : (0 : Int) ≤ 0 ∧ (0 : Int) < (([r0, r1, r2, r3].length : Nat) : Int) ∧ [r0, r1, r2, r3].length ≤ sizeLine := ⟨by decide, (by decide : (0 : Int) < 4), (by decide : 4 ≤ sizeLine)⟩
  have call : ∃ n', x.n = n' + 1 ∧ CallOk x.w n' 787 [.str (laidN r0 r1 r2 r3 tu xs)] [] fun d' o => d' = .int (rd (laidN r0 r1 r2 r3 tu xs) 0) ∧ o = [] := ⟨n + 1, hx.n, rd_ok _ _ _ hc⟩
  have sw := spelt_w (r0 := r0) (r1 := r1) (r2 := r2) (r3 := r3) (tu := tu) hww hws
  have gl := glue_len [r0] (speltL r0 r1 r2 r3 tu (xs.map wordOf))
  unfold laidN at hc call ⊢
  generalize hg : xs.map wordOf = ws at *
  cases ws with
  | nil =>
    refine ExOk.tree (c := g34) hx.ok hN (n := 20) (ok_eq (t' := .need ((0 : Int) ≤ (0 : Int) ∧ (0 : Int) < (↑[r0, r1, r2, r3].length : Int) ∧ [r0, r1, r2, r3].length ≤ sizeLine) ( .need (([66] : List Nat).length + ([] : List Nat).length ≤ sizeLine) ( .need (∀ (c : Nat), c ∈ ([66] : List Nat) ++ [] → (65 : Nat) ≤ c ∧ c ≤ (80 : Nat)) ( .call 787 [(.str [66])] [] (.int (rd (([66] : List Nat) ++ []) (0 : Int))) [] ( .ret (.ret (.int (rd (([66] : List Nat) ++ []) (0 : Int)))) ⟨[(S "heap", (.obj 0)), (S "spelled", (.obj 6))], [(S "roles", 1), (S "turn", 2), (S "words", 3)], [(.ints (xs)), (.cell (some (.str ([r0, r1, r2, r3])))), (.cell (some (.int (tu)))), (.cell (some (.obj 4))), (.ints ([])), (AO.rng (0 : Int) (0 : Int)), (.ints ([]))]⟩))))) (by kernel_rfl!) ?_)
    exact ok_need n0 (ok_need (by decide) (ok_need hc ⟨call, [0], by rfl, by rfl, rfl, rfl⟩))
  | cons y l =>
    have en : speltL r0 r1 r2 r3 tu (y :: l) ≠ [] := by unfold speltL; simp
    generalize hp : speltL r0 r1 r2 r3 tu (y :: l) = sp at *
    rw [accS_ne en]
    refine ExOk.tree (c := g34) hx.ok hN (n := 20) (ok_eq (t' := (fun (ws ys : List (List Nat)) (n : Nat) => (.need ((0 : Int) ≤ (0 : Int) ∧ (0 : Int) < (↑[r0, r1, r2, r3].length : Int) ∧ [r0, r1, r2, r3].length ≤ sizeLine) ( .need (strsW [[r0, r1, r2, r3].getD (Int.toNat (0 : Int)) (0 : Nat)] ys ≤ sizeLine) ( .need (([66] : List Nat).length + (glue [[r0, r1, r2, r3].getD (Int.toNat (0 : Int)) (0 : Nat)] ys).length ≤   sizeLine) ( .need (∀ (c : Nat),   c ∈ ([66] : List Nat) ++ glue [[r0, r1, r2, r3].getD (Int.toNat (0 : Int)) (0 : Nat)] ys →     (65 : Nat) ≤ c ∧ c ≤ (80 : Nat)) ( .call 787 [(.str (([66] : List Nat) ++ glue [[r0, r1, r2, r3].getD (Int.toNat (0 : Int)) (0 : Nat)] ys))] [] (.int (rd (([66] : List Nat) ++ glue [[r0, r1, r2, r3].getD (Int.toNat (0 : Int)) (0 : Nat)] ys) (0 : Int))) [] ( .ret (.ret (.int (rd (([66] : List Nat) ++ glue [[r0, r1, r2, r3].getD (Int.toNat (0 : Int)) (0 : Nat)] ys) (0 : Int)))) ⟨[(S "heap", (.obj 0)), (S "spelled", (.obj 6))], [(S "roles", 1), (S "turn", 2), (S "words", 3)], [(.ints (xs)), (.cell (some (.str ([r0, r1, r2, r3])))), (.cell (some (.int (tu)))), (.cell (some (.obj 4))), (.strs (ws)), (AO.rng (0 : Int) (↑n : Int)), (.strs (ys))]⟩))))) : T Fl)) (y :: l) sp (y :: l).length) (by kernel_rfl!) ?_)
    exact ok_need n0 (ok_need (show strsW [r0] sp ≤ sizeLine by omega) (ok_need (show 1 + (glue [r0] sp).length ≤ sizeLine by omega) (ok_need hc ⟨call, [0], by rfl, by rfl, rfl, rfl⟩)))
end
end Mine
namespace Mine
noncomputable section
noncomputable def sioD (b : List Nat) (p : Int) : AO := .dict [(S "_StringIO__newline", .str [10]), (S "_StringIO__buf", .str b), (S "_StringIO__pos", .int p)]
noncomputable def spS : Specs := fun a args os => match Nat.beq a 53, Nat.beq a 371, Nat.beq a 364, args, os with
  | true, _, _, [.int i, .str _], [] => .need (-1000000000 ≤ i ∧ i ≤ 1000000000) (.done (.int i) [])
  | _, true, _, [.obj 0], [.inst 587 1, .dict [(a1, .str n), (a2, .str b), (a3, .int p)]] => .done .none [.inst 587 1, .dict [(a1, .str n), (a2, .str b), (a3, .int p)]]
  | _, _, true, [.obj 0, .str u], [.inst 587 1, .dict [(a1, .str n), (a2, .str b), (a3, .int p)]] => .need (n = [10]) (.done (.str u) [.inst 587 1, .dict [(a1, .str n), (a2, .str b), (a3, .int p)]])
  | _, _, _, _, _ => .bad
noncomputable abbrev B4 : List Stmt := bodyOf (topSt 4)
noncomputable abbrev Binit : List Stmt := bodyOf (clsSt 10 1)
noncomputable abbrev Btr : List Stmt := bodyOf (clsSt 10 2)
noncomputable abbrev Bck : List Stmt := bodyOf (clsSt 10 3)
noncomputable abbrev Brd : List Stmt := bodyOf (clsSt 10 25)
theorem idx_ok (w : World) (n : Nat) (i : Int) (u : List Nat) (h1 : -1000000000 ≤ i) (h2 : i ≤ 1000000000) : CallOk w n 53 [.int i, .str u] [] fun d o => d = .int i ∧ o = [] := by
  refine enterC (oc := .type "function") (fd := F53) (body := B4) (names := [S "n", S "what"]) [] [] .nil (by kernel_rfl!) (by kernel_rfl!) (by kernel_rfl!) (by kernel_rfl!) (by kernel_rfl!) (fun s vals _ h => match vals, h with | [a, b], _ => .of_eq (by kernel_rfl!)) fun x hx => ?_
  have hN : x.env.scope.names = (cfg spS (topSt 4)).N := by rw [hx.sc]; kernel_rfl!
  refine ExOk.tree (c := cfg spS (topSt 4)) hx.ok hN (n := 20) (ok_eq (t' := .br (false) ( .br (true) ( .bad) ( .br (decide ((1099511627776 : Int) < i)) ( .bad) ( .br (decide (i < (-1099511627776 : Int))) ( .bad) ( .ret (.ret (.int (i))) ⟨[(S "n", (.int (i))), (S "what", (.str (u)))], [], []⟩)))) ( .br (decide ((1099511627776 : Int) < i)) ( .bad) ( .br (decide (i < (-1099511627776 : Int))) ( .bad) ( .ret (.ret (.int (i))) ⟨[(S "n", (.int (i))), (S "what", (.str (u)))], [], []⟩)))) (by kernel_rfl!) ?_)
  exact ok_f rfl (ok_f (decide_eq_false (by omega)) (ok_f (decide_eq_false (by omega)) ⟨[], by rfl, by rfl, rfl, rfl⟩))
theorem chk_ok (w : World) (n : Nat) (b : List Nat) (p : Int) : CallOk w n 371 [.obj 0] [.inst 587 1, sioD b p] fun d o => d = .none ∧ o = [.inst 587 1, sioD b p] := by
  refine enterC (oc := .type "function") (fd := F371) (body := Bck) (names := [S "self"]) [] [] .nil (by kernel_rfl!) (by kernel_rfl!) (by kernel_rfl!) (by kernel_rfl!) (by kernel_rfl!) (fun s vals _ h => match vals, h with | [a], _ => .of_eq (by kernel_rfl!)) fun x hx => ?_
  have hN : x.env.scope.names = (cfg spS (clsSt 10 3)).N := by rw [hx.sc]; kernel_rfl!
  refine ExOk.tree (c := cfg spS (clsSt 10 3)) hx.ok hN (n := 20) (ok_eq (t' := .ret .next ⟨[(S "self", (.obj 0))], [], [(.inst 587 1), (sioD (b) (p))]⟩) (by kernel_rfl!) ?_)
  exact ⟨[0, 1], by rfl, by rfl, rfl, rfl⟩
theorem trn_ok (w : World) (n : Nat) (u b : List Nat) (p : Int) : CallOk w n 364 [.obj 0, .str u] [.inst 587 1, sioD b p] fun d o => d = .str u ∧ o = [.inst 587 1, sioD b p] := by
  refine enterC (oc := .type "function") (fd := F364) (body := Btr) (names := [S "self", S "s"]) [] [] .nil (by kernel_rfl!) (by kernel_rfl!) (by kernel_rfl!) (by kernel_rfl!) (by kernel_rfl!) (fun s vals _ h => match vals, h with | [a, b], _ => .of_eq (by kernel_rfl!)) fun x hx => ?_
  have hN : x.env.scope.names = (cfg spS (clsSt 10 2)).N := by rw [hx.sc]; kernel_rfl!
  refine ExOk.tree (c := cfg spS (clsSt 10 2)) hx.ok hN (n := 20) (ok_eq (t' := .br (false) ( .bad) ( .br (false) ( .bad) ( .ret (.ret (.str (u))) ⟨[(S "self", (.obj 0)), (S "s", (.str (u))), (S "newline", (.str [10]))], [], [(.inst 587 1), (sioD (b) (p))]⟩))) (by kernel_rfl!) ?_)
  exact ok_f rfl (ok_f rfl ⟨[0, 1], by rfl, by rfl, rfl, rfl⟩)
theorem sini_ok (w : World) (n : Nat) (u : List Nat) : CallOk w (n + 1) 357 [.obj 0, .str u] [.inst 587 1, .dict []] fun d o => d = .none ∧ o = [.inst 587 1, sioD u 0] := by
  refine enterC (oc := .type "function") (fd := F357) (body := Binit) (names := [S "self", S "initial_value", S "newline"]) [.str (S "\n") 671] [.str [10]] (.cons ⟨671, rfl⟩ .nil) (by kernel_rfl!) (by kernel_rfl!) (by kernel_rfl!) (by kernel_rfl!) (by kernel_rfl!) (fun s vals X h => match vals, h with | [a, b], _ => kp_binds X (fun M => by kernel_rfl!)) fun x hx => ?_
  have hN : x.env.scope.names = (cfg spS (clsSt 10 1)).N := by rw [hx.sc]; kernel_rfl!
  refine ExOk.tree (c := cfg spS (clsSt 10 1)) hx.ok hN (n := 20) (ok_eq (t' := .br (false) ( .bad) ( .br (true) ( .br (false) ( .br (true) ( .br (true) ( .bad) ( .br (false) ( .bad) ( .need ([(10 : Nat)] = [(10 : Nat)]) ( .call 364 [(.obj 0), (.str (u))] [(.inst 587 1), (sioD [] ((0 : Int)))] (.str (u)) [(.inst 587 1), (sioD [] ((0 : Int)))] ( .ret .next ⟨[(S "self", (.obj 0)), (S "initial_value", (.str (u))), (S "newline", (.str [10]))], [], [(.inst 587 1), (sioD (u) ((0 : Int)))]⟩))))) ( .br (false) ( .bad) ( .need ([(10 : Nat)] = [(10 : Nat)]) ( .call 364 [(.obj 0), (.str (u))] [(.inst 587 1), (sioD [] ((0 : Int)))] (.str (u)) [(.inst 587 1), (sioD [] ((0 : Int)))] ( .ret .next ⟨[(S "self", (.obj 0)), (S "initial_value", (.str (u))), (S "newline", (.str [10]))], [], [(.inst 587 1), (sioD (u) ((0 : Int)))]⟩))))) ( .br (false) ( .bad) ( .need ([(10 : Nat)] = [(10 : Nat)]) ( .call 364 [(.obj 0), (.str (u))] [(.inst 587 1), (sioD [] ((0 : Int)))] (.str (u)) [(.inst 587 1), (sioD [] ((0 : Int)))] ( .ret .next ⟨[(S "self", (.obj 0)), (S "initial_value", (.str (u))), (S "newline", (.str [10]))], [], [(.inst 587 1), (sioD (u) ((0 : Int)))]⟩))))) ( .br (false) ( .bad) ( .need ([(10 : Nat)] = [(10 : Nat)]) ( .call 364 [(.obj 0), (.str (u))] [(.inst 587 1), (sioD [] ((0 : Int)))] (.str (u)) [(.inst 587 1), (sioD [] ((0 : Int)))] ( .ret .next ⟨[(S "self", (.obj 0)), (S "initial_value", (.str (u))), (S "newline", (.str [10]))], [], [(.inst 587 1), (sioD (u) ((0 : Int)))]⟩)))))) (by kernel_rfl!) ?_)
  exact ok_f rfl (ok_t rfl (ok_f rfl (ok_f rfl (ok_need rfl ⟨⟨n, hx.n, trn_ok x.w n u [] 0⟩, [0, 1], by rfl, by rfl, rfl, rfl⟩))))
noncomputable def rdC (b : List Nat) (p : Nat) : List Nat := (b.drop p).take 1
noncomputable def rdP (b : List Nat) (p : Nat) : Nat := if p < b.length then p + 1 else p
theorem sread_ok (w : World) (n : Nat) (b : List Nat) (p : Nat) (hp : p ≤ b.length) (hb : b.length < 1000000) : CallOk w (n + 1) 533 [.obj 0, .int 1] [.inst 587 1, sioD b p] fun d o => d = .str (rdC b p) ∧ o = [.inst 587 1, sioD b (rdP b p)] := by
  have hsz : 1000000 * 4 ≤ sizeLine := by decide
  refine enterC (oc := .type "function") (fd := F533) (body := Brd) (names := [S "self", S "size"]) [] [] .nil (by kernel_rfl!) (by kernel_rfl!) (by kernel_rfl!) (by kernel_rfl!) (by kernel_rfl!) (fun s vals X h => match vals, h with | [a, b], _ => kp_binds X (fun M => by kernel_rfl!)) fun x hx => ?_
  have hN : x.env.scope.names = (cfg spS (clsSt 10 25)).N := by rw [hx.sc]; kernel_rfl!
  refine ExOk.tree (c := cfg spS (clsSt 10 25)) hx.ok hN (n := 20) (ok_eq (t' := (fun (p : Int) => (.need ((-1000000000 : Int) ≤ (1 : Int) ∧ (1 : Int) ≤ (1000000000 : Int)) ( .call 53 [(.int ((1 : Int))), (.str [83, 116, 114, 105, 110, 103, 73, 79, 46, 114, 101, 97, 100, 32, 111, 102, 32, 97, 32, 115, 105, 122, 101, 32, 116, 104, 97, 116, 32, 105, 115, 32, 110, 111, 32, 101, 120, 97, 99, 116, 32, 105, 110, 116])] [] (.int ((1 : Int))) [] ( .call 371 [(.obj 0)] [(.inst 587 1), (sioD (b) (p))] .none [(.inst 587 1), (sioD (b) (p))] ( .need (b.length ≤ sizeLine) ( .br (decide ((↑b.length : Int) ≤ p)) ( .ret (.ret (.str [])) ⟨[(S "self", (.obj 0)), (S "size", (.int ((1 : Int)))), (S "start", (.int (p))), (S "stop", (.int ((↑b.length : Int))))], [], [(.inst 587 1), (sioD (b) (p))]⟩) ( .br (true) ( .br (decide (p + (1 : Int) < (↑b.length : Int))) ( .need (partOk (some p) (some (p + (1 : Int))) ∧ b.length ≤ sizeLine) ( .ret (.ret (.str (cutL b (some p) (some (p + (1 : Int)))))) ⟨[(S "self", (.obj 0)), (S "size", (.int ((1 : Int)))), (S "start", (.int (p))), (S "stop", (.int (p + (1 : Int))))], [], [(.inst 587 1), (sioD (b) (p + (1 : Int)))]⟩)) ( .need (partOk (some p) (some (↑b.length : Int)) ∧ b.length ≤ sizeLine) ( .ret (.ret (.str (cutL b (some p) (some (↑b.length : Int))))) ⟨[(S "self", (.obj 0)), (S "size", (.int ((1 : Int)))), (S "start", (.int (p))), (S "stop", (.int ((↑b.length : Int))))], [], [(.inst 587 1), (sioD (b) ((↑b.length : Int)))]⟩))) ( .need (partOk (some p) (some (↑b.length : Int)) ∧ b.length ≤ sizeLine) ( .ret (.ret (.str (cutL b (some p) (some (↑b.length : Int))))) ⟨[(S "self", (.obj 0)), (S "size", (.int ((1 : Int)))), (S "start", (.int (p))), (S "stop", (.int ((↑b.length : Int))))], [], [(.inst 587 1), (sioD (b) ((↑b.length : Int)))]⟩))))))) : T Fl)) p) (by kernel_rfl!) ?_)
  dsimp only
  refine ok_need ⟨by decide, by decide⟩ ⟨⟨n, hx.n, idx_ok x.w n 1 _ (by decide) (by decide)⟩, ⟨n, hx.n, chk_ok x.w n b p⟩, ok_need (by omega) ?_⟩
  by_cases h : p < b.length
  · refine ok_f (decide_eq_false (by omega)) (ok_t rfl ?_)
    have e1 : rdP b p = p + 1 := if_pos h
    have hpo : ∀ j : Int, 0 ≤ j → partOk (some (p : Int)) (some j) ∧ b.length ≤ sizeLine := fun j hj => ⟨⟨by show (0 : Int) ≤ _; omega, hj⟩, by omega⟩
    by_cases h2 : p + 1 < b.length
    · refine ok_t (decide_eq_true (by omega)) (ok_need (hpo _ (by omega)) ⟨[0, 1], by rfl, by rfl, ?_, ?_⟩)
      · show D.str _ = D.str _
        congr 1
        show (b.drop _).take (_ - _) = _
        unfold rdC loN
        dsimp only
        rw [Int.toNat_natCast, show ((p : Int) + 1).toNat - p = 1 by omega]
      · rw [e1]; rfl
    · refine ok_f (decide_eq_false (by omega)) (ok_need (hpo _ (by omega)) ⟨[0, 1], by rfl, by rfl, ?_, ?_⟩)
      · show D.str _ = D.str _
        congr 1
        show (b.drop _).take (_ - _) = _
        unfold rdC loN
        dsimp only
        rw [Int.toNat_natCast p, Int.toNat_natCast b.length, show b.length - p = 1 by omega]
      · have : ((b.length : Nat) : Int) = ((p + 1 : Nat) : Int) := by omega
        rw [e1, this]; rfl
  · refine ok_t (decide_eq_true (by omega)) ⟨[0, 1], by rfl, by rfl, ?_, ?_⟩
    · show D.str _ = D.str _
      congr 1
      unfold rdC
      rw [List.drop_of_length_le (by omega)]; rfl
    · have e1 : rdP b p = p := if_neg h
      rw [e1]; rfl
end
end Mine
namespace Mine
noncomputable section
theorem wp_alloc_peek {α : Type} {Kk : Frag} {M : Model} {A : Around} {E : Value → Shared → Prop} {Q : α → Shared → Prop} {s : Shared} {o : Obj} (X : Kk.In s.heap) :
    ∀ (t : Sem α) (g : Addr → Sem α), peekA Kk ⟨M.prog, M.w.params⟩ t = some (o, g) → wpAny M A (g s.heap.objs.size) Q E { s with heap := s.heap.push o } → wpAny M A t Q E s := by
  intro t
  induction t with
  | rule _ k ih => intro g e q Γ p hΓ; exact ih () g e q Γ p hΓ
  | point _ k ih => intro g e q Γ p hΓ; exact ih () g e q Γ p hΓ
  | ask k ih => intro g e q Γ p hΓ; exact ih _ g e q Γ p hΓ
  | load a _ k ih =>
    intro g e q Γ p hΓ
    simp only [peekA] at e
    split at e
    · rename_i ob ho; exact ⟨ob, X _ _ ho, ih ob g e q Γ p hΓ⟩
    · cases e
  | alloc ob k _ =>
    intro g e q
    have e : some (ob, k) = some (o, g) := e
    obtain ⟨e1, e2⟩ := Prod.mk.inj (Option.some.inj e)
    subst e1
    subst e2
    show wpAny M A (alloc ob >>= k) Q E s
    exact wpAny_bind (wpAny_alloc q)
  | _ => intro g e; cases e
noncomputable abbrev F80 : FuncData := fd (clsSt 6 1) "IOBase.__new__" .none (.str (S "io") 286) (.ref 79)
noncomputable abbrev B80 : List Stmt := bodyOf (clsSt 6 1)
noncomputable abbrev E80 : Expr := retE (st1 B80 1)
theorem makes587 (P : Params) (M : Model) {h : Heap} (X : (K P).In h) : Looks M h (Bind.madeHere "object.__new__" (.ref 587)) () ∧ Looks M h (Bind.madeBy (.ref 587)) none ∧ Looks M h (isInstance (.ref 587) (.type "type")) true ∧ Looks M h (isSubtype (.ref 587) (.ref 587)) true ∧ Looks M h (specialOf (.ref 587) "__call__") (some (.builtin "type.__call__")) ∧ Looks M h (isSubtype (.ref 587) (.type "object")) true ∧ Looks M h (Bind.staticBase (.ref 587)) (.type "object") ∧ Looks M h (Bind.madeBy (.type "object")) (some "object.__new__") :=
  ⟨Looks.of_peek X (by kernel_rfl), Looks.of_peek X (by kernel_rfl), looks_instIn X (by kernel_rfl), looks_mroIn X (by kernel_rfl), looks_specialIn X (by kernel_rfl), looks_mroIn X (by kernel_rfl), Looks.of_peek X (by kernel_rfl), Looks.of_peek X (by kernel_rfl)⟩
section
variable {w : World} {A : Around} {R : Result → Shared → Prop} {h : Heap} {g : Array GenState} {d : Drawn} {t : Nat} {os : OsState}
theorem cls587 {P : Params} (X : (K P).In h) : ∃ oc od cd sl, h.get? 587 = some ⟨oc, od, .cls cd, sl⟩ ∧ cd.abstract = false ∧ cd.hasDel = false ∧ cd.mro.isEmpty = false :=
  ⟨_, _, _, _, X _ _ (show (K P).lookup 587 = some (o587 P) by kernel_rfl), rfl, rfl, rfl⟩
theorem new587 (X : (K w.params).In h) (hq : R (.ok (.ret (.ref (h.objs.size + 1)))) ⟨(h.push emptyDict).push (instObj 587 h.objs.size), g, d, t, os⟩) : codeAny (model pw w) A (.call (.builtin "object.__new__") ⟨[.ref 587], []⟩) R ⟨h, g, d, t, os⟩ := by
  obtain ⟨oc, od, cd, sl, hC, e1, e2, e4⟩ := cls587 X
  obtain ⟨here, made, typ, self, call, top, base, mo⟩ := makes587 w.params (model pw w) X
  have F := PySem.F.objNew
  refine codeAny_call_builtin_code (Code.quiet_builtin _ F.quiet) ?_
  simp only [checkBuiltinCall, F.kind, F.split, F.row]
  have args : Bind.checkArgs "object.__new__" ⟨.hand, "object.__new__", "__new__", .cls, []⟩ ⟨[.ref 587], []⟩ = pure () := by kernel_rfl
  rw [args]
  repeat (first | simp only [bne_self_eq_false, Bool.false_eq_true, if_false] | lk)
  refine codeAny_builtin F.entry ?_
  unfold Builtin.«object.__new__»
  have fin : ∀ A', wpAny (model pw w) A' (do
      let d ← if typeHasDict (.ref 587) then some <$> alloc { cls := .type "dict", data := .dict #[] } else pure none
      ret (← newObj (.ref 587) .plain d)) (fun fin s' => match fin with | .done f => R (.ok f) s' | .again c' => c'.quiet = true ∧ codeAny (model pw w) A c' R s') (fun e s' => R (.error e) s') ⟨h, g, d, t, os⟩ := by
    intro A'
    show wpAny _ _ ((alloc emptyDict >>= fun x => pure (some x)) >>= _) _ _ _
    refine wpAny_bind (wpAny_bind (wpAny_alloc (wpAny_pure (wpAny_bind ?_))))
    show wpAny _ _ (newObjAsIs _ _ _) _ _ _
    unfold newObjAsIs classHasDel
    refine wpAny_bind (wpAny_alloc (wpAny_bind (wpAny_bind (wpAny_load (Heap.get?_push_of_some _ (Heap.get?_push_of_some _ hC)) (wpAny_pure ?_)))))
    rw [e2]
    refine wpAny_pure (wpAny_pure ?_)
    show R _ _
    rw [Heap.size_push]
    exact hq
  repeat (first | simp only [e1, Bool.false_eq_true, if_false] | exact fin _ | lk)
end
end
end Mine
namespace Mine
noncomputable section
noncomputable abbrev c80 : Cfg := cfg noSp (clsSt 6 1)
noncomputable def cfFun : Expr → Expr
  | .Call (.Attribute o _ _) _ _ _ => o
  | _ => default
noncomputable def cfAp : Expr → Pos
  | .Call (.Attribute _ _ p) _ _ _ => p
  | _ => default
noncomputable def cfArgs : Expr → List Expr
  | .Call _ a _ _ => a
  | _ => []
noncomputable def cfPos : Expr → Pos
  | .Call _ _ _ p => p
  | _ => default
noncomputable def nmPos : Expr → Pos
  | .Name _ p => p
  | _ => default
noncomputable def st80 : St := ⟨[(S "cls", .top 587)], [], []⟩
theorem find_onew (P : Params) : findCls (K P) (.type "object") (.type "type") (S "__new__") = some (.val (.builtin "object.__new__")) := by kernel_rfl
theorem ty_obj : typeOf (.type "object") = pure (.type "type") := by kernel_rfl
theorem stub_obj : Manifest.isStub "object" = false := by kernel_rfl
theorem hand_onew : handedIn (.builtin "object.__new__") = true := by kernel_rfl
theorem new_ev' {x : Fx} (hx : x.Ok) (hN : x.env.scope.names = c80.N) (np ap cp p : Pos) (h4 : Nat.beq ap.endLine p.line = true) : EvOk x (.Call (.Attribute (.Name (S "object") np) (S "__new__") ap) (.Name (S "cls") cp :: []) [] p) st80 fun d σ' => d = .obj 1 ∧ σ' = ⟨[(S "cls", .top 587)], [], [.dict [], .inst 587 0]⟩ := by
  have t1 : ∀ np, evalM c80 40 (.Name (S "object") np) st80 = .ret (.type .object) st80 := fun np => by kernel_rfl!
  have t2 : ∀ cp, evalsM c80 40 [.Name (S "cls") cp] st80 = .ret [.top 587] st80 := fun cp => by kernel_rfl!
  intro s Q E m news S post
  refine MethodCall_ (pl := _) ?_ (method_eq rfl rfl rfl h4)
  refine (good hx hN 40).ev _ _ _ _ (ok_eq (t1 np) (P := fun d σ => d = .type .object ∧ σ = st80) ⟨rfl, rfl⟩) s _ E m S fun v s1 m1 n1 d σ1 p S1 pre1 r1 => ?_
  obtain ⟨rfl, rfl⟩ := p
  have r1 : v = Value.type "object" := r1
  subst r1
  have kin := hx.base.kin.keeps S1.F.keep
  have a3 := find_onew x.w.params
  refine method_type (K := K x.w.params) (T := "object") (v := .builtin "object.__new__") (name := Mine.S "__new__") S1.F hx.base.kin ty_obj stub_obj a3 hand_onew ?_
  refine callWith_builtin1 ?_ (star_cons rfl) (back_plain rfl)
  refine (good hx hN 40).es _ _ _ _ rfl _ (ok_eq (t2 cp) (P := fun ds σ => ds = [.top 587] ∧ σ = st80) ⟨rfl, rfl⟩) _ _ E m1 (S1.toks _) fun vs s2 m2 n2 ds σ2 p S2 pre2 r2 => ?_
  obtain ⟨rfl, rfl⟩ := p
  obtain ⟨v, rfl, r3⟩ := all2_1 r2
  have r3 : v = Value.ref 587 := r3
  subst r3
  have kin2 := hx.base.kin.keeps S2.F.keep
  obtain ⟨hh, g, dr, t, os⟩ := s2
  refine wpAny_call (new587 kin2 ?_)
  have en : n2 = [] := by
    have := S2.obj.length
    cases n2 with
    | nil => rfl
    | cons a l => simp [st80] at this
  subst en
  have S3 := S2.push (ao := .dict []) (S2.F.push emptyDict) (News.push S2.F S2.N emptyDict) (fresh_of (x := x) (σ := st80) (s := ⟨hh, g, dr, t, os⟩) (m := m2) fun q hq => Heap.lt_size (S2.N q hq).1) ⟨[], 0, rfl, .nil⟩ t
  have S4 := S3.push (ao := .inst 587 0) (S3.F.push (instObj 587 hh.objs.size)) (News.push S3.F S3.N (instObj 587 hh.objs.size)) (fresh_of (x := x) (σ := st80) (s := ⟨hh, g, dr, t, os⟩) (m := m2) fun q hq => Heap.lt_size (S3.N q hq).1) ⟨hh.objs.size, rfl, rfl⟩ t
  refine post _ _ m2 _ (.obj 1) _ ⟨rfl, rfl⟩ S4 ?_ ?_
  · have en1 : ads news = [] := by
      have := S.obj.length
      cases news with
      | nil => rfl
      | cons a l => simp [st80] at this
    rw [en1]; exact ⟨_, rfl⟩
  · refine ⟨_, rfl, ?_⟩
    show Value.ref _ = Value.ref _
    rw [Heap.size_push]
theorem new_ev {x : Fx} (hx : x.Ok) (hN : x.env.scope.names = c80.N) : EvOk x E80 st80 fun d σ' => d = .obj 1 ∧ σ' = ⟨[(S "cls", .top 587)], [], [.dict [], .inst 587 0]⟩ := by
  have e : E80 = .Call (.Attribute (.Name (S "object") (nmPos (cfFun E80))) (S "__new__") (cfAp E80)) (.Name (S "cls") (nmPos ((cfArgs E80).headD default)) :: []) [] (cfPos E80) := by kernel_rfl!
  have h4 : Nat.beq (cfAp E80).endLine (cfPos E80).line = true := by kernel_rfl!
  rw [e]
  exact new_ev' hx hN _ _ _ _ h4
noncomputable def gA (P : Params) (M : Setting) (v : Value) : Addr → Sem (List (Str × Value)) := match peekA (K P) M (bindArgs F80 ⟨[.ref 587, v], []⟩) with
  | some r => r.2
  | none => fun _ => .unsupported ""
noncomputable def gB (P : Params) (M : Setting) (v : Value) (a : Addr) : Addr → Sem (List (Str × Value)) := match peekA (K P) M (gA P M v a) with
  | some r => r.2
  | none => fun _ => .unsupported ""
noncomputable def tupO (v : Value) : Obj := { cls := .type "tuple", data := .seq #[v] }
noncomputable def b80 (v : Value) (a d : Addr) : List (Str × Value) := [(S "cls", .ref 587), (S "args", .ref a), (S "kwargs", .ref d)]
theorem gA_eq (P : Params) (M : Setting) (v : Value) : peekA (K P) M (bindArgs F80 ⟨[.ref 587, v], []⟩) = some (tupO v, gA P M v) := by kernel_rfl!
theorem gB_eq (P : Params) (M : Setting) (v : Value) (a : Addr) : peekA (K P) M (gA P M v a) = some (emptyDict, gB P M v a) := by kernel_rfl!
theorem gC_eq (P : Params) (M : Setting) (v : Value) (a d : Addr) : peek (K P) M (gB P M v a d) = some (b80 v a d) := by kernel_rfl!
theorem in_push {P : Params} {h : Heap} (X : (K P).In h) (o : Obj) : (K P).In (h.push o) := X.keeps fun _ _ e => Heap.get?_push_of_some _ e
theorem new80_ok (w : World) (n : Nat) (u : List Nat) : CallOk w n 80 [.top 587, .str u] [] fun d o => d = .obj 0 ∧ o = [.inst 587 1, .dict []] := by
  intro A s hb news vals R rm hB O ra hg post
  obtain ⟨v1, v2, rfl, r1, t, rfl⟩ := all2_2 ra
  have r1 : v1 = .ref 587 := r1
  subst r1
  have en : news = [] := by
    have := O.obj.length
    cases news with
    | nil => rfl
    | cons a l => simp at this
  subst en
  have kin := hB.kin.keeps O.keep
  have hroom : A.depth < recursionLimit := by have := rm.depth; omega
  have ho : (K w.params).lookup 80 = some ⟨.type "function", none, .func F80, #[]⟩ := by kernel_rfl!
  have hbody : F80.body = .stmts ([st1 B80 0] ++ [st1 B80 1]) := by kernel_rfl!
  have hcd : codeIn (K w.params) F80.code F80.qualname = true := by kernel_rfl!
  have hco : F80.scope.isCoroutine = false := by kernel_rfl!
  have hgn : F80.scope.isGenerator = false := by kernel_rfl!
  have hk : F80.scope.kind = .function := by kernel_rfl!
  have hclo : F80.closure = [] := by kernel_rfl!
  have hg1 : F80.globals = mainGlobals := by kernel_rfl!
  have hb1 : F80.builtins = builtinsNs := by kernel_rfl!
  have hcell : (F80.scope.names.all fun p => match p.2 with | .cell => false | _ => true) = true := by kernel_rfl!
  have hloc : ∀ a d, ((b80 (.str ⟨u.toArray⟩ t) a d).all fun p => match lk p.1 F80.scope.names with | some .local => true | _ => false) = true := fun a d => by kernel_rfl!
  have hN0 : F80.scope.names = c80.N := by kernel_rfl!
  have hA : ∀ M, peekA (K w.params) M (bindArgs F80 ⟨[.ref 587, .str ⟨u.toArray⟩ t], []⟩) = some (tupO (.str ⟨u.toArray⟩ t), gA w.params M (.str ⟨u.toArray⟩ t)) := fun M => gA_eq _ _ _
  have hev : ∀ x : Fx, x.Ok → x.env.scope = F80.scope → x.a0.length = 0 → ExOk x ([st1 B80 0] ++ [st1 B80 1]) st80 (retOf 0 fun d o => d = .obj 0 ∧ o = [.inst 587 1, .dict []]) := fun x hx hsc ha => by
    have hN : x.env.scope.names = c80.N := by rw [hsc]; exact hN0
    refine ExOk.app (ExOk.tree (c := c80) hx hN (n := 20) (ok_eq (t' := .ret .next st80) (by kernel_rfl!) ?_))
    have e : [st1 B80 1] = [.Return (some E80) (stPos (st1 B80 1))] := by kernel_rfl!
    rw [e]
    refine ExOk.returnEv ((new_ev hx hN).mono ?_)
    rintro d σ ⟨rfl, rfl⟩
    exact ⟨[1, 0], by rfl, by rfl, by rfl, by rfl⟩
  generalize F80 = fd80 at *
  refine codeAny_call_function hroom (kin _ _ ho) rfl hco hgn hbody (codeRec_of kin hcd) ?_
  refine wp_alloc_peek (M := model pw w) kin _ _ (hA _) ?_
  refine wp_alloc_peek (M := model pw w) (in_push kin _) _ _ (gB_eq _ _ _ _) ?_
  refine (Looks.of_peek (in_push (in_push kin _) _) (gC_eq _ _ _ _ _)).here ?_
  refine wpAny_newFunctionEnv (fun p hp e => ?_) (fun p hp => ?_) (fun h1 hns hsb => ?_) hk
  · have := List.all_eq_true.mp hcell p hp
    rw [e] at this; cases this
  · have := List.all_eq_true.mp (hloc _ _) p hp
    split at this
    · rename_i q; exact lk_lookup q
    · cases this
  have up : ∀ b o, s.heap.get? b = some o → h1.get? b = some o := fun b o e => by
    have e2 := Heap.get?_push_of_some emptyDict (Heap.get?_push_of_some (tupO (.str ⟨u.toArray⟩ t)) e)
    exact hsb.extBut b o (Nat.ne_of_lt (Heap.lt_size e2)) (Heap.get?_push_of_some _ e2)
  refine ⟨(hB.nolimit.keeps O.keep).keeps up, codeAny_func ?_⟩
  have rd := rm.depth
  have ru := rm.units
  rw [hclo]
  generalize hL : ((s.heap.push (tupO (.str ⟨u.toArray⟩ t))).push emptyDict).objs.size = L at *
  have hLs : s.heap.objs.size ≤ L := by rw [← hL, Heap.size_push, Heap.size_push]; omega
  generalize henv : newEnv fd80.scope L fd80.globals [] (fd80.qualname ++ ".<locals>.") (some 80) fd80.code none fd80.builtins = env
  have es : env.scope = fd80.scope := by rw [← henv]; rfl
  have el : env.locals = L := by rw [← henv]; rfl
  have eg : env.globals = fd80.globals := by rw [← henv]; rfl
  have eb : env.builtins = fd80.builtins := by rw [← henv]; rfl
  let x : Fx := ⟨w, hb, env, A.deeper env, n, s.os, []⟩
  have hx : x.Ok := by
    refine ⟨hB, by show env.scope.kind = _; rw [es]; exact hk, eg.trans hg1, eb.trans hb1, ⟨?_, ?_, rm.handled⟩⟩
    · show A.depth + 1 + 8 * n < recursionLimit; omega
    · show A.units + 3 + 64 + 40 * n < cLine; omega
  have Sx : Sim x st80 { s with heap := h1, toks := s.toks + 3 } (fun y => (b80 (.str ⟨u.toArray⟩ t) s.heap.objs.size (s.heap.push (tupO (.str ⟨u.toArray⟩ t))).objs.size).reverse.lookup y) [] := by
    refine ⟨⟨by show h1.Ns env.locals _; rw [el]; exact hns, fun b o e => up b o (O.keep b o e), by show hb.objs.size ≤ env.locals; rw [el]; exact Nat.le_trans O.size hLs⟩, fun p hp => (by cases hp), List.nodup_nil, fun y d q => ?_, fun y i q => (by cases q), .nil, hg, rfl⟩
    unfold st80 lk at q
    cases z : Fast.sEq (S "cls") y with
    | true =>
      have := Fast.sEq_iff.mp z
      subst this
      rw [z] at q
      cases q
      exact ⟨.ref 587, by rfl, rfl⟩
    | false => rw [z] at q; cases q
  refine hev x hx es rfl _ _ _ _ [] Sx (pre_refl _) fun fl s' m' news' fl' σ' p S' pre r => ?_
  have hL' : ∃ oL, s'.heap.get? L = some oL := by obtain ⟨o, _, _, e, _⟩ := S'.F.ns; exact ⟨o, by rw [← el]; exact e⟩
  obtain ⟨oL, hL'⟩ := hL'
  cases fl' with
  | next => obtain ⟨ids, g1, g2, g3, _⟩ := p; cases g3
  | brk => exact p.elim
  | cont => exact p.elim
  | ret d =>
    obtain ⟨ids, g1, hc, g3⟩ := p
    have r' : ∃ v, fl = .ret v ∧ Rel (ads news') v d := by cases fl <;> first | exact ⟨_, rfl, r⟩ | exact r.elim
    obtain ⟨v, rfl, r⟩ := r'
    obtain ⟨hc, h4⟩ := Bool.and_eq_true_iff.mp hc
    obtain ⟨hc, h3⟩ := Bool.and_eq_true_iff.mp hc
    obtain ⟨h1', h2⟩ := Bool.and_eq_true_iff.mp hc
    have nd := nodupN_iff h1'
    have hl : ∀ i ∈ ids, i < σ'.objs.length := fun i hi => Nat.le_of_ble_eq_true (allN_iff h2 i hi)
    have hcl : ∀ i ∈ ids, ∀ j ∈ (σ'.objs.getD i .deq).refs, j ∈ ids := fun i hi j hj => memN_iff.mp (allN_iff (allN_iff h3 i hi) j hj)
    have har : ∀ j ∈ [d].flatMap D.refs, j ∈ ids := fun j hj => memN_iff.mp (allN_iff h4 j hj)
    have O2 := call_own hx S' nd hl hcl
    have O' : Own hb s'.heap (subN news' ids) (subO σ'.objs ids) := ⟨S'.F.keep, Nat.le_of_lt (Nat.lt_of_le_of_lt (Nat.le_trans O.size hLs) (Heap.lt_size hL')), fun p hp => ⟨(S'.N p (mem_sub S' hl hp)).1, (S'.N p (mem_sub S' hl hp)).2.2⟩, O2.nd, O2.obj⟩
    exact post v s' (subN news' ids) _ _ g3 O' ⟨_, rfl⟩ (r.ren fun j hj a ha => ads_sub S' hl (har j (List.mem_flatMap.mpr ⟨d, .head _, hj⟩)) ha) S'.gens S'.os
end
end Mine
namespace Mine
noncomputable section
theorem find_new587 (P : Params) : findCls (K P) (.ref 587) (.type "type") (S "__new__") = some (.get (.builtin "staticmethod.__get__") (.ref 84) .none (.ref 587)) := by kernel_rfl
theorem reads587 (P : Params) : readsIn (K P) 587 (.type "type") = true := by kernel_rfl
theorem sm84 (P : Params) : recIn (K P) 84 "staticmethod" = some [.ref 80] := by kernel_rfl
theorem find_init587 (P : Params) : findIn (K P) (.ref 587) "__init__" = some (some (.ref 357)) := by kernel_rfl
theorem type_init587 (P : Params) : typeIn (K P) (.ref 357) = some (.type "function") := by kernel_rfl
theorem room_under {n : Nat} {A : Around} (rm : Room (n + 1) A) (C : Addr) (vs : List Value) : Room n (A.under (.builtin "type.__call__" ⟨.ref C :: vs, []⟩)) := by
  have h1 : (Code.builtin "type.__call__" ⟨.ref C :: vs, []⟩).weight = 1 := by kernel_rfl
  have h2 : (Code.builtin "type.__call__" ⟨.ref C :: vs, []⟩).cUnits = 1 := by kernel_rfl
  refine ⟨?_, ?_, ?_⟩
  · have := rm.depth
    show A.depth + _ + 8 * n < _
    omega
  · have := rm.units
    show A.units + _ + 64 + 40 * n < _
    omega
  · exact rm.handled
theorem make587_ok (w : World) (n : Nat) (u : List Nat) : CallOk w (n + 2) 587 [.str u] [] fun d o => d = .obj 0 ∧ o = [.inst 587 1, sioD u 0] := by
  intro A s hb news vals R rm hB O ra hg post
  obtain ⟨v1, rfl, t, rfl⟩ := all2_1 ra
  have en : news = [] := by
    have := O.obj.length
    cases news with
    | nil => rfl
    | cons a l => simp at this
  subst en
  have kin := hB.kin.keeps O.keep
  obtain ⟨oc, od, cd, sl, hC, e1, e2, e4⟩ := cls587 kin
  obtain ⟨here, made, typ, self, call, top, base, mo⟩ := makes587 w.params (model pw w) kin
  have hi := looks_findIn (M := model pw w) kin (find_init587 w.params)
  have hbf := fun self => bind_fn (M := model pw w) kin self (type_init587 w.params)
  have rA := room_under rm 587 [.str ⟨u.toArray⟩ t]
  obtain ⟨hh, g, dr, tk, os⟩ := s
  dsimp only at hC kin
  refine codeAny_of_tree ?_
  show wpAny _ _ (callAny (.ref 587) _) _ _ _
  refine nd_load hC ?_
  show wpAny _ _ (callAny.viaDunder (.ref 587) _) _ _ _
  unfold callAny.viaDunder
  refine wpAny_bind (call.at ?_)
  dsimp only
  rw [tc_bind]
  refine wpAny_bind (wpAny_pure (wpAny_bind (wpAny_pure ?_)))
  refine wpAny_pure (a := Fin.again (.call (.builtin "type.__call__") ⟨[.ref 587, .str ⟨u.toArray⟩ t], []⟩)) (And.intro rfl ?_)
  refine codeAny_call_builtin_at (Code.quiet_builtin _ (by decide +kernel)) entry_typeCall (check_slot tc_kind tc_split typ (tc_args _ _ _) ?_)
  unfold Builtin.«type.__call__»
  have hm : Looks (model pw w) hh (mroOf (.ref 587)) cd.mro := ((Looks.ld (part := none) hC).andThen .now).andThen .now
  repeat (first | with_reducible refine cls_bind (K := K w.params) kin (reads587 _) (find_new587 _) ?_ | simp only [e4, Bool.false_eq_true, if_false] | with_reducible refine wpAny_call ?_ | lk)
  refine sm_get (K := K w.params) kin (sm84 _) ?_
  dsimp only
  refine handed_on rfl ?_
  repeat (first | with_reducible refine wpAny_call ?_ | lk)
  have rB : Room (n + 1) (A.under (.builtin "type.__call__" ⟨[.ref 587, .str ⟨u.toArray⟩ t], []⟩)) := ⟨by have := rA.depth; omega, by have := rA.units; omega, rA.handled⟩
  refine new80_ok w n u _ _ hb [] [.ref 587, .str ⟨u.toArray⟩ t] _ rB hB O (.cons rfl (.cons ⟨t, rfl⟩ .nil)) hg ?_
  rintro v s' news' d os' ⟨rfl, rfl⟩ O' pre r hg' ho'
  obtain ⟨xa, ex, rfl⟩ := r
  have kin' := hB.kin.keeps O'.keep
  obtain ⟨dx, hx⟩ : ∃ dx, s'.heap.get? xa = some (instObj 587 dx) := by
    have ob := O'.obj
    obtain ⟨p, hp, a, _, hpo⟩ := ob.get (i := 0) rfl
    have e : (ads news')[0]? = some p.1 := by
      show (news'.map (·.1))[0]? = _
      rw [List.getElem?_map, hp]; rfl
    rw [ex] at e
    cases e
    have := (O'.own p (List.mem_of_getElem? hp)).1
    rw [hpo] at this
    exact ⟨a, this⟩
  obtain ⟨here', made', typ', self', call', top', base', mo'⟩ := makes587 w.params (model pw w) kin'
  have hi' := looks_findIn (M := model pw w) kin' (find_init587 w.params)
  have b1 := bind_fn (M := model pw w) kin' (.ref xa) (type_init587 w.params)
  obtain ⟨hh', g', dr', tk', os1⟩ := s'
  dsimp only at hx hg' ho'
  have t1 : Looks (model pw w) hh' (typeOf (.ref xa)) (.ref 587) := (Looks.ld hx).andThen .now
  dsimp only
  unfold isInstance callSpecial? specialOf
  repeat (first | with_reducible refine wpAny_call ?_ | lk)
  refine sini_ok w n u _ _ hb news' [.ref xa, .str ⟨u.toArray⟩ t] _ rA hB O' (.cons ⟨xa, ex, rfl⟩ (.cons ⟨t, rfl⟩ .nil)) hg' ?_
  rintro v2 s2 news2 d2 os2 ⟨rfl, rfl⟩ O2 pre2 r2 hg2 ho2
  have r2 : v2 = .none := r2
  subst r2
  exact wpAny_pure (wpAny_pure (post (.ref xa) s2 news2 (.obj 0) _ ⟨rfl, rfl⟩ O2 (pre.trans pre2) ⟨xa, at_pre ex pre2, rfl⟩ hg2 (ho2.trans ho')))
end
end Mine
namespace Mine
noncomputable section
noncomputable def spI : Specs := fun a args os => match Nat.beq a 587, args, os with
  | true, [.str u], [] => .done (.obj 0) [.inst 587 1, sioD u 0]
  | _, _, _ => .bad
noncomputable abbrev S19 : Stmt := clsSt 19 0
noncomputable abbrev B19 : List Stmt := bodyOf S19
noncomputable def shD (cm wc ws : List Nat) (wsp : D) (qu es eq : List Nat) (st : D) (ln : Int) (tok : List Nat) : AO := .dict [(S "instream", .obj 2), (S "infile", .none), (S "posix", .tt), (S "eof", .none), (S "commenters", .str cm), (S "wordchars", .str wc), (S "whitespace", .str ws), (S "whitespace_split", wsp), (S "quotes", .str qu), (S "escape", .str es), (S "escapedquotes", .str eq),
  (S "state", st), (S "pushback", .obj 4), (S "lineno", .int ln), (S "debug", .int 0), (S "token", .str tok), (S "filestack", .obj 5), (S "source", .none), (S "_punctuation_chars", .str [])]
noncomputable def shOs (d : AO) (b : List Nat) (p : Int) : List AO := [.inst 722 1, d, .inst 587 3, sioD b p, .deq, .deq]
noncomputable def wcL : List Nat := [97, 98, 99, 100, 102, 101, 103, 104, 105, 106, 107, 108, 109, 110, 111, 112, 113, 114, 115, 116, 117, 118, 119, 120, 121, 122, 65, 66, 67, 68, 69, 70, 71, 72, 73, 74, 75, 76, 77, 78, 79, 80, 81, 82, 83, 84, 85, 86, 87, 88, 89, 90, 48, 49, 50, 51, 52, 53, 54, 55, 56, 57, 95, 223, 224, 225, 226, 227, 228, 229, 230, 231, 232, 233, 234, 235, 236, 237, 238, 239, 240, 241, 242, 243, 244, 245, 246, 248, 249, 250, 251, 252, 253, 254, 255, 192, 193, 194, 195, 196, 197, 198, 199, 200, 201, 202, 203, 204, 205, 206, 207, 208, 209, 210, 211, 212, 213, 214, 216, 217, 218, 219, 220, 221, 222]
noncomputable def sh0 : AO := shD [35] wcL [32, 9, 13, 10] .ff [39, 34] [92] [34] (.str [32]) 1 []
theorem shinit_ok (w : World) (n : Nat) (u : List Nat) : CallOk w (n + 3) 646 [.obj 0, .str u, .none, .tt] [.inst 722 1, .dict []] fun d o => d = .none ∧ o = shOs sh0 u 0 := by
  refine enterC (oc := .type "function") (fd := F646) (body := B19) (names := [S "self", S "instream", S "infile", S "posix", S "punctuation_chars"]) [.bool false] [.ff] (.cons rfl .nil) (by kernel_rfl!) (by kernel_rfl!) (by kernel_rfl!) (by kernel_rfl!) (by kernel_rfl!) (fun s vals X h => match vals, h with | [a, b, c, d], _ => kp_binds X (fun M => by kernel_rfl!)) fun x hx => ?_
  have hN : x.env.scope.names = (cfg spI S19).N := by rw [hx.sc]; kernel_rfl!
  refine ExOk.tree (c := cfg spI S19) hx.ok hN (n := 60) (ok_eq (t' := .call 587 [(.str (u))] [] (.obj 0) [(.inst 587 1), (sioD (u) ((0 : Int)))] ( .need (([97, 98, 99, 100, 102, 101, 103, 104, 105, 106, 107, 108, 109, 110, 111, 112, 113, 114, 115, 116, 117, 118, 119, 120, 121, 122, 65, 66, 67, 68, 69, 70, 71, 72, 73, 74, 75, 76, 77, 78, 79, 80, 81, 82, 83, 84, 85, 86, 87, 88, 89, 90, 48, 49, 50, 51, 52, 53, 54, 55, 56, 57, 95] : List Nat).length +     ([223, 224, 225, 226, 227, 228, 229, 230, 231, 232, 233, 234, 235, 236, 237, 238, 239, 240, 241, 242, 243, 244, 245, 246, 248, 249, 250, 251, 252, 253, 254, 255, 192, 193, 194, 195, 196, 197, 198, 199, 200, 201, 202, 203, 204, 205, 206, 207, 208, 209, 210, 211, 212, 213, 214, 216, 217, 218, 219, 220, 221, 222] : List Nat).length ≤   sizeLine) ( .need (([] : List Nat).length ≤ sizeLine) ( .br (false) ( .bad) ( .ret .next ⟨[(S "self", (.obj 0)), (S "instream", (.obj 2)), (S "infile", .none), (S "posix", (D.tt)), (S "punctuation_chars", (.str []))], [], [(.inst 722 1), (shD [35] [97, 98, 99, 100, 102, 101, 103, 104, 105, 106, 107, 108, 109, 110, 111, 112, 113, 114, 115, 116, 117, 118, 119, 120, 121, 122, 65, 66, 67, 68, 69, 70, 71, 72, 73, 74, 75, 76, 77, 78, 79, 80, 81, 82, 83, 84, 85, 86, 87, 88, 89, 90, 48, 49, 50, 51, 52, 53, 54, 55, 56, 57, 95, 223, 224, 225, 226, 227, 228, 229, 230, 231, 232, 233, 234, 235, 236, 237, 238, 239, 240, 241, 242, 243, 244, 245, 246, 248, 249, 250, 251, 252, 253, 254, 255, 192, 193, 194, 195, 196, 197, 198, 199, 200, 201, 202, 203, 204, 205, 206, 207, 208, 209, 210, 211, 212, 213, 214, 216, 217, 218, 219, 220, 221, 222] [32, 9, 13, 10] (D.ff) [39, 34] [92] [34] (.str [32]) ((1 : Int)) []), (.inst 587 3), (sioD (u) ((0 : Int))), .deq, .deq]⟩))))) (by kernel_rfl!) ?_)
  refine ⟨⟨n + 2, hx.n, make587_ok x.w n u⟩, ok_need (by decide) (ok_need (by decide) (ok_f rfl ⟨[0, 1, 2, 3, 4, 5], by rfl, by rfl, rfl, by rfl⟩))⟩
theorem makes722 (P : Params) : makesIn (K P) 722 = true := by kernel_rfl
theorem find_init722 (P : Params) : findIn (K P) (.ref 722) "__init__" = some (some (.ref 646)) := by kernel_rfl
theorem type_init722 (P : Params) : typeIn (K P) (.ref 646) = some (.type "function") := by kernel_rfl
theorem make722_ok (w : World) (n : Nat) (u : List Nat) : CallOk w (n + 4) 722 [.str u, .none, .tt] [] fun d o => d = .obj 0 ∧ o = shOs sh0 u 0 := by
  intro A s hb news vals R rm hB O ra hg post
  obtain ⟨v1, r, e1, ⟨t, rfl⟩, v2, v3, rfl, r2, r3⟩ : ∃ v1 r, vals = v1 :: r ∧ Rel (ads news) v1 (.str u) ∧ ∃ v2 v3, r = [v2, v3] ∧ Rel (ads news) v2 .none ∧ Rel (ads news) v3 .tt := by
    cases ra with
    | cons a q => obtain ⟨b, c, rfl, r2, r3⟩ := all2_2 q; exact ⟨_, _, rfl, a, b, c, rfl, r2, r3⟩
  subst e1
  have r2 : v2 = .none := r2
  have r3 : v3 = .bool true := r3
  subst r2
  subst r3
  have en : news = [] := by
    have := O.obj.length
    cases news with
    | nil => rfl
    | cons a l => simp at this
  subst en
  have kin := hB.kin.keeps O.keep
  have rA := room_under rm 722 [.str ⟨u.toArray⟩ t, .none, .bool true]
  obtain ⟨hh, g, dr, tk, os⟩ := s
  dsimp only at kin O hg post
  refine make_core (makes_of (M := model pw w) kin (makes722 w.params)) (looks_findIn kin (find_init722 w.params)) (fun self => bind_fn kin self (type_init722 w.params)) (.inl rfl) ?_
  have hx := Heap.get?_push_size (hh.push emptyDict) (o := instObj 722 hh.objs.size) rfl
  have hd : ((hh.push emptyDict).push (instObj 722 hh.objs.size)).get? hh.objs.size = some emptyDict := Heap.get?_push_of_some _ (Heap.get?_push_size _ rfl)
  rw [Heap.size_push] at hx
  have O1 : Own hb ((hh.push emptyDict).push (instObj 722 hh.objs.size)) [(hh.objs.size + 1, instObj 722 hh.objs.size), (hh.objs.size, emptyDict)] [.inst 722 1, .dict []] := by
    refine ⟨fun b o e => Heap.get?_push_of_some _ (Heap.get?_push_of_some _ (O.keep b o e)), by rw [Heap.size_push, Heap.size_push]; have := O.size; omega, fun p hp => ?_, ?_, .cons ⟨hh.objs.size, rfl, rfl⟩ (.cons ⟨[], 0, rfl, .nil⟩ .nil)⟩
    · rcases List.mem_cons.mp hp with rfl | hp
      · exact ⟨hx, Heap.get?_none_of_le (Nat.le_trans O.size (Nat.le_succ _))⟩
      · rw [List.mem_singleton.mp hp]
        exact ⟨hd, Heap.get?_none_of_le O.size⟩
    · refine List.nodup_cons.mpr ⟨fun q => ?_, by simp⟩
      have := List.mem_singleton.mp q
      exact absurd this (Nat.succ_ne_self _)
  refine shinit_ok w n u _ _ hb _ [.ref (hh.objs.size + 1), .str ⟨u.toArray⟩ t, .none, .bool true] _ rA hB O1 (.cons ⟨_, rfl, rfl⟩ (.cons ⟨t, rfl⟩ (.cons rfl (.cons rfl .nil)))) hg ?_
  rintro v2 s2 news2 d2 os2 ⟨rfl, rfl⟩ O2 pre2 r2 hg2 ho2
  have r2 : v2 = .none := r2
  subst r2
  exact ⟨rfl, post _ s2 news2 (.obj 0) _ ⟨rfl, rfl⟩ O2 ⟨_, rfl⟩ ⟨_, at_pre rfl pre2, rfl⟩ hg2 ho2⟩
end
end Mine
namespace Mine
noncomputable section
noncomputable def pcX (l c el ec l2 c2 el2 ec2 : Nat) : Expr := .Attribute (.Name (S "self") ⟨l2, c2, el2, ec2⟩) (S "punctuation_chars") ⟨l, c, el, ec⟩
noncomputable abbrev S1p : Stmt := clsSt 19 1
noncomputable def shEs (cm wc ws : List Nat) (wsp : D) (qu es eq : List Nat) (st : D) (ln : Int) (tok : List Nat) : List (Str × D) := match shD cm wc ws wsp qu es eq st ln tok with
  | .dict l => l
  | _ => []
section
variable (cm wc ws : List Nat) (wsp : D) (qu es eq : List Nat) (st : D) (ln : Int) (tok b : List Nat) (p : Int)
theorem pc653_ok (w : World) (n : Nat) (hst : st = .none ∨ ∃ u, st = .str u) (hws : wsp = .tt) : CallOk w n 653 [.obj 0] (shOs (shD cm wc ws wsp qu es eq st ln tok) b p) fun d o => d = .str [] ∧ o = shOs (shD cm wc ws wsp qu es eq st ln tok) b p := by
  subst hws
  refine enterC (oc := .type "function") (fd := F653) (body := bodyOf S1p) (names := [S "self"]) [] [] .nil (by kernel_rfl!) (by kernel_rfl!) (by kernel_rfl!) (by kernel_rfl!) (by kernel_rfl!) (fun s vals _ h => match vals, h with | [a], _ => .of_eq (by kernel_rfl!)) fun x hx => ?_
  have hN : x.env.scope.names = (cfg noSp S1p).N := by rw [hx.sc]; kernel_rfl!
  refine ExOk.tree (c := cfg noSp S1p) hx.ok hN (n := 20) (ok_eq (t' := (fun (wsp : D) => (.ret (.ret (.str [])) ⟨[(S "self", (.obj 0))], [], [(.inst 722 1), (shD (cm) (wc) (ws) (wsp) (qu) (es) (eq) (st) (ln) (tok)), (.inst 587 3), (sioD (b) (p)), .deq, .deq]⟩ : T Fl)) .tt) (by kernel_rfl!) ?_)
  rcases hst with rfl | ⟨u, rfl⟩
  · exact ⟨[0, 1, 2, 3, 4, 5], by rfl, by rfl, rfl, by rfl⟩
  · exact ⟨[0, 1, 2, 3, 4, 5], by rfl, by rfl, rfl, by rfl⟩
theorem pc_get (P : Params) : plainGet (K P) 722 (S "punctuation_chars") = true := by kernel_rfl
theorem pc_dict (P : Params) : hasDictIn (K P) 722 = true := by kernel_rfl
theorem pc_find (P : Params) : findIn (K P) (.ref 722) (S "punctuation_chars") = some (some (.ref 654)) := by kernel_rfl
theorem pc_spec (P : Params) : specialIn (K P) (.ref 654) "__get__" = some (some (.builtin "property.__get__")) := by kernel_rfl
theorem pc_takes (P : Params) : takesIn (K P) (.ref 654) = some true := by kernel_rfl
theorem pc_rec (P : Params) : ∃ rest, recIn (K P) 654 "property" = some (.ref 653 :: rest) := ⟨[.none, .none, .none, .str (S "punctuation_chars") 1034, .bool false], by kernel_rfl⟩
theorem pc_ev {x : Fx} (hx : x.Ok) {n : Nat} (hn : x.n = n + 2) {N : List (Str × NameKind)} (hN : x.env.scope.names = N) (hk : lk (S "self") N = some .local) (σ : St) (a1 a2 a3 a4 a5 a6 a7 a8 : Nat) (hl : lk (S "self") σ.loc = some (.obj 0)) (h6 : subO σ.objs [0, 1, 2, 3, 4, 5] = shOs (shD cm wc ws wsp qu es eq st ln tok) b p)
    (h0 : σ.objs[0]? = some (.inst 722 1)) (h1 : σ.objs[1]? = some (.dict (shEs cm wc ws wsp qu es eq st ln tok))) (hc : closedN [0, 1, 2, 3, 4, 5] [.obj 0] σ.objs = true) (hst : st = .none ∨ ∃ u, st = .str u) (hws : wsp = .tt) (hm : mergeO σ.objs [0, 1, 2, 3, 4, 5] (shOs (shD cm wc ws wsp qu es eq st ln tok) b p) = σ.objs) :
    EvOk x (pcX a1 a2 a3 a4 a5 a6 a7 a8) σ fun d' o => d' = .str [] ∧ o = σ := by
  intro s Q E m news S post
  unfold pcX
  refine Attribute_name ?_
  obtain ⟨v, hv, c, ec, rfl⟩ := S.loc _ _ hl
  have hk' : x.env.scope.names.lookup (Mine.S "self") = some .local := by rw [hN]; exact lk_lookup hk
  refine wpAny_Name (wpAny_loadName_local hx.kind hk' S.F.ns hv ?_) (by decide)
  obtain ⟨c', dx, l, n', f, hm', g, hal, I⟩ := inst_at S h0 h1
  rw [ec] at f; cases f
  obtain ⟨hc, h4⟩ := Bool.and_eq_true_iff.mp hc
  obtain ⟨hc, h3⟩ := Bool.and_eq_true_iff.mp hc
  obtain ⟨hd, h2⟩ := Bool.and_eq_true_iff.mp hc
  have nd := nodupN_iff hd
  have hlt : ∀ i ∈ [0, 1, 2, 3, 4, 5], i < σ.objs.length := fun i hi => Nat.le_of_ble_eq_true (allN_iff h2 i hi)
  have hcl : ∀ i ∈ [0, 1, 2, 3, 4, 5], ∀ j ∈ (σ.objs.getD i .deq).refs, j ∈ [0, 1, 2, 3, 4, 5] := fun i hi j hj => memN_iff.mp (allN_iff (allN_iff h3 i hi) j hj)
  have O := call_own hx S nd hlt hcl
  rw [h6] at O
  obtain ⟨rest, hrec⟩ := pc_rec x.w.params
  have q1 := pc_get x.w.params
  have q2 := pc_dict x.w.params
  have q3 := pc_find x.w.params
  have q4 := pc_spec x.w.params
  have q5 := pc_takes x.w.params
  refine get_prop (K := K x.w.params) (C := 722) (p := 654) (fget := 653) (rest := rest) (name := Mine.S "punctuation_chars") S.F hx.base.kin I q1 q2 q3 q4 q5 hrec ?_
  have rm := hx.room
  have rB : Room (n + 1) x.A.in1 := ⟨by have := rm.depth; rw [hn] at this; show x.A.depth + _ < _; omega, by have := rm.units; rw [hn] at this; show x.A.units + 1 + 64 + 40 * (n + 1) < _; omega, rm.handled⟩
  have ra : All2 (Rel (ads (subN news [0, 1, 2, 3, 4, 5]))) [Value.ref c] [D.obj 0] := .cons ⟨c, ads_sub S hlt (i := 0) (.head _) ec, rfl⟩ .nil
  refine pc653_ok cm wc ws wsp qu es eq st ln tok b p x.w n hst hws x.A.in1 { s with toks := s.toks + 1 } _ (subN news [0, 1, 2, 3, 4, 5]) [.ref c] _ rB (hx.base.keeps (base_hide hx S hlt)) O ra S.gens ?_
  rintro v s' news' d' os' ⟨rfl, rfl⟩ O' pre r hg' ho'
  obtain ⟨t, rfl⟩ := r
  obtain ⟨S', pre', k⟩ := call_back hx (S.toks (s.toks + 1)) nd hlt O' pre hg' ho'
  rw [hm] at S'
  dsimp only
  exact handed_on rfl (post _ s' m _ (.str []) σ ⟨rfl, rfl⟩ S' pre' ⟨t, rfl⟩)
end
end
end Mine
namespace Mine
noncomputable section
noncomputable def spRd : Specs := fun a args os => match Nat.beq a 533, args, os with
  | true, [.obj 0, .int 1], [.inst 587 1, .dict [(a1, .str n), (a2, .str b), (a3, .int p)]] => .need (n = [10] ∧ 0 ≤ p ∧ p ≤ b.length ∧ b.length < 1000000) (.br (decide (p < b.length)) (.done (.str [b.getD p.toNat 0]) [.inst 587 1, .dict [(a1, .str n), (a2, .str b), (a3, .int (p + 1))]]) (.done (.str []) [.inst 587 1, .dict [(a1, .str n), (a2, .str b), (a3, .int p)]]))
  | _, _, _ => .bad
noncomputable abbrev S6 : Stmt := clsSt 19 6
noncomputable abbrev B6 : List Stmt := bodyOf S6
noncomputable abbrev W6 : Stmt := st1 B6 2
noncomputable abbrev c6 : Cfg := { cfg spRd S6 with cp := fun _ σ => some (.str [], σ) }
noncomputable def shR (r0 r1 r2 r3 : Nat) (st : D) (ln : Int) (tok : List Nat) : AO := shD [] [] [r0] .tt [r1, r3] [r2] [r1] st ln tok
noncomputable def rtSt (r0 r1 r2 r3 : Nat) (st : D) (ln : Int) (tok b : List Nat) (p : Int) (q : D) (es : List Nat) : St := ⟨[(S "self", .obj 0), (S "quoted", q), (S "escapedstate", .str es)], [], shOs (shR r0 r1 r2 r3 st ln tok) b p⟩
noncomputable def rt1 (r0 r1 r2 r3 : Nat) (st : D) (ln : Int) (tok b : List Nat) (p : Int) (q : D) (es nc : List Nat) : St := ⟨[(S "self", .obj 0), (S "quoted", q), (S "escapedstate", .str es), (S "nextchar", .str nc)], [], shOs (shR r0 r1 r2 r3 st ln tok) b p⟩
inductive LS where
  | sp | inq (a : Nat) | esc (e : Nat) | wd
noncomputable def stL (r2 : Nat) : LS → List Nat
  | .sp => [32]
  | .inq a => [a]
  | .esc _ => [r2]
  | .wd => [97]
noncomputable def lexR (r0 r1 r2 r3 : Nat) (st : LS) (tok : List Nat) (q : Bool) (rest : List Nat) : Option (List Nat × Bool × Bool × List Nat) := match rest with
  | [] => (match st with
    | .sp => some (tok, q, true, [])
    | .wd => some (tok, q, true, [])
    | _ => none)
  | c :: r => (match st with
    | .sp => if c = r0 then lexR r0 r1 r2 r3 .sp tok q r else if c = r2 then lexR r0 r1 r2 r3 (.esc 97) tok q r else if c ∈ [r1, r3] then lexR r0 r1 r2 r3 (.inq c) tok q r else lexR r0 r1 r2 r3 .wd [c] q r
    | .inq a => if c = a then lexR r0 r1 r2 r3 .wd tok true r else if c = r2 ∧ a = r1 then lexR r0 r1 r2 r3 (.esc a) tok true r else lexR r0 r1 r2 r3 (.inq a) (tok ++ [c]) true r
    | .esc e => if e = 97 then lexR r0 r1 r2 r3 .wd (tok ++ [c]) q r else if c ≠ r2 ∧ c ≠ e then lexR r0 r1 r2 r3 (.inq e) (tok ++ [r2] ++ [c]) q r else lexR r0 r1 r2 r3 (.inq e) (tok ++ [c]) q r
    | .wd => if c = r0 then some (tok, q, false, r) else if c ∈ [r1, r3] then lexR r0 r1 r2 r3 (.inq c) tok q r else if c = r2 then lexR r0 r1 r2 r3 (.esc 97) tok q r else lexR r0 r1 r2 r3 .wd (tok ++ [c]) q r)
structure Ro (r0 r1 r2 r3 : Nat) : Prop where
  b0 : 65 ≤ r0 ∧ r0 ≤ 80
  b1 : 65 ≤ r1 ∧ r1 ≤ 80
  b2 : 65 ≤ r2 ∧ r2 ≤ 80
  b3 : 65 ≤ r3 ∧ r3 ≤ 80
  d01 : r0 ≠ r1
  d02 : r0 ≠ r2
  d03 : r0 ≠ r3
  d12 : r1 ≠ r2
  d13 : r1 ≠ r3
  d23 : r2 ≠ r3
noncomputable def InvL (r1 r3 : Nat) (st : LS) (tok : List Nat) (q : Bool) (es : List Nat) : Prop := match st with
  | .sp => tok = [] ∧ q = false
  | .inq a => a ∈ [r1, r3]
  | .esc e => es = [e] ∧ (e = 97 ∨ e = r1)
  | .wd => tok ≠ [] ∨ q = true
noncomputable def qD (q : Bool) : D := match q with
  | true => .tt
  | false => .ff
noncomputable def resD (tok : List Nat) (q : Bool) : D := match q with
  | true => .str tok
  | false => if tok = [] then .none else .str tok
theorem iT {c : Nat} {l : List Nat} (h : c ∈ l) : inS [c] l = true := by rw [inS_one]; exact decide_eq_true h
theorem iF {c : Nat} {l : List Nat} (h : ¬ c ∈ l) : inS [c] l = false := by rw [inS_one]; exact decide_eq_false h
theorem iN (c : Nat) : inS [c] [] = false := iF (by simp)
theorem oneF {a c : Nat} (h : a ≠ c) : decide ([a] = [c]) = false := decide_eq_false fun q => h (List.cons.inj q).1
theorem oneT {a c : Nat} (h : a = c) : decide ([a] = [c]) = true := decide_eq_true (by rw [h])
section
variable {r0 r1 r2 r3 : Nat} (ro : Ro r0 r1 r2 r3) {ln : Int} {b : List Nat} {x : Fx} (hx : x.Ok) {n : Nat} (hxn : x.n = n + 2) (hN : x.env.scope.names = c6.N) (hb : b.length < 1000000)
theorem pcs (hx : x.Ok) (hxn : x.n = n + 2) (hN : x.env.scope.names = c6.N) (σ : St) (u tok : List Nat) (p : Int) (a1 a2 a3 a4 a5 a6 a7 a8 : Nat) (hl : lk (S "self") σ.loc = some (.obj 0)) (h6 : subO σ.objs [0, 1, 2, 3, 4, 5] = shOs (shR r0 r1 r2 r3 (.str u) ln tok) b p)
    (h0 : σ.objs[0]? = some (.inst 722 1)) (h1 : σ.objs[1]? = some (.dict (shEs [] [] [r0] .tt [r1, r3] [r2] [r1] (.str u) ln tok))) (hc : closedN [0, 1, 2, 3, 4, 5] [.obj 0] σ.objs = true) (hm : mergeO σ.objs [0, 1, 2, 3, 4, 5] (shOs (shR r0 r1 r2 r3 (.str u) ln tok) b p) = σ.objs) :
    EvOk x (pcX a1 a2 a3 a4 a5 a6 a7 a8) σ fun d' o => d' = .str [] ∧ o = σ :=
  pc_ev _ _ _ _ _ _ _ _ _ _ _ _ hx hxn hN (by kernel_rfl!) σ a1 a2 a3 a4 a5 a6 a7 a8 hl h6 h0 h1 hc (.inr ⟨u, rfl⟩) rfl hm
/-- a sign is read -/
theorem seg_char (u : List Nat) (tok : List Nat) (p : Nat) (q : D) (es : List Nat) (hp : p < b.length) (hc : b.getD p 0 ≠ 10) (hx : x.Ok) (hxn : x.n = n + 2) (hN : x.env.scope.names = c6.N) (hb : b.length < 1000000) {P : Fl → St → Prop}
    (h : P .next (rt1 r0 r1 r2 r3 (.str u) ln tok b ((p : Int) + 1) q es [b.getD p 0])) : ExOk x ((wBody W6).take 3) (rtSt r0 r1 r2 r3 (.str u) ln tok b p q es) P := by
  refine ExOk.tree (c := c6) hx hN (n := 40) (ok_path (ws := [false, true, false, false]) (t' := (fun (st : D) (p : Int) => (.ext (pcX 571 15 571 37 571 15 571 19) ⟨[(S "self", (.obj 0)), (S "quoted", (q)), (S "escapedstate", (.str (es)))], [], [(.inst 722 1), (shD [] [] ([r0]) (D.tt) ([r1, r3]) ([r2]) ([r1]) (st) (ln) (tok)), (.inst 587 3), (sioD (b) (p)), .deq, .deq]⟩ (.str []) ⟨[(S "self", (.obj 0)), (S "quoted", (q)), (S "escapedstate", (.str (es)))], [], [(.inst 722 1), (shD [] [] ([r0]) (D.tt) ([r1, r3]) ([r2]) ([r1]) (st) (ln) (tok)), (.inst 587 3), (sioD (b) (p)), .deq, .deq]⟩ ( .need (([] : List Nat).length ≤ sizeLine) ( .need ((!decide (([] : List Nat) = [])) = false) ( .need ([(10 : Nat)] = [(10 : Nat)] ∧ (0 : Int) ≤ p ∧ p ≤ (↑b.length : Int) ∧ b.length < (1000000 : Nat)) ( .need (decide (p < (↑b.length : Int)) = true) ( .call 533 [(.obj 0), (.int ((1 : Int)))] [(.inst 587 1), (sioD (b) (p))] (.str ([b.getD p.toNat (0 : Nat)])) [(.inst 587 1), (sioD (b) (p + (1 : Int)))] ( .need (decide ([b.getD p.toNat (0 : Nat)] = ([10] : List Nat)) = false) ( .need (decide ((3 : Int) ≤ (0 : Int)) = false) ( .ret .next ⟨[(S "self", (.obj 0)), (S "quoted", (q)), (S "escapedstate", (.str (es))), (S "nextchar", (.str ([b.getD p.toNat (0 : Nat)])))], [], [(.inst 722 1), (shD [] [] ([r0]) (D.tt) ([r1, r3]) ([r2]) ([r1]) (st) (ln) (tok)), (.inst 587 3), (sioD (b) (p + (1 : Int))), .deq, .deq]⟩)))))))) : T Fl)) (.str u) p) (by kernel_rfl!) ?_)
  dsimp only
  have e : ((p : Nat) : Int).toNat = p := Int.toNat_natCast p
  have cl := sread_ok x.w n b p (by omega) hb
  have e1 : rdC b p = [b.getD p 0] := by
    unfold rdC
    rw [List.drop_eq_getElem_cons hp]
    have : b.getD p 0 = b[p] := by simp [List.getD, hp]
    rw [this]; rfl
  have e2 : rdP b p = p + 1 := if_pos hp
  rw [e1, e2] at cl
  refine ⟨pcs (u := u) (tok := tok) hx hxn hN _ _ _ _ _ _ _ _ _ _ (by rfl) (by rfl) (by rfl) (by rfl) (by rfl) (by rfl), ok_need (by decide) (ok_need rfl (ok_need ⟨rfl, by omega, by omega, hb⟩ (ok_need (decide_eq_true (by omega)) ⟨⟨n + 1, hxn, ?_⟩, ok_need ?_ (ok_need rfl h)⟩)))⟩
  · exact cl
  · exact oneF hc
theorem seg_eof (u : List Nat) (tok : List Nat) (p : Nat) (q : D) (es : List Nat) (hp : p = b.length) (hx : x.Ok) (hxn : x.n = n + 2) (hN : x.env.scope.names = c6.N) (hb : b.length < 1000000) {P : Fl → St → Prop}
    (h : P .next (rt1 r0 r1 r2 r3 (.str u) ln tok b p q es [])) : ExOk x ((wBody W6).take 3) (rtSt r0 r1 r2 r3 (.str u) ln tok b p q es) P := by
  refine ExOk.tree (c := c6) hx hN (n := 40) (ok_path (ws := [false, false, false, false]) (t' := (fun (st : D) (p : Int) => (.ext (pcX 571 15 571 37 571 15 571 19) ⟨[(S "self", (.obj 0)), (S "quoted", (q)), (S "escapedstate", (.str (es)))], [], [(.inst 722 1), (shD [] [] ([r0]) (D.tt) ([r1, r3]) ([r2]) ([r1]) (st) (ln) (tok)), (.inst 587 3), (sioD (b) (p)), .deq, .deq]⟩ (.str []) ⟨[(S "self", (.obj 0)), (S "quoted", (q)), (S "escapedstate", (.str (es)))], [], [(.inst 722 1), (shD [] [] ([r0]) (D.tt) ([r1, r3]) ([r2]) ([r1]) (st) (ln) (tok)), (.inst 587 3), (sioD (b) (p)), .deq, .deq]⟩ ( .need (([] : List Nat).length ≤ sizeLine) ( .need ((!decide (([] : List Nat) = [])) = false) ( .need ([(10 : Nat)] = [(10 : Nat)] ∧ (0 : Int) ≤ p ∧ p ≤ (↑b.length : Int) ∧ b.length < (1000000 : Nat)) ( .need (decide (p < (↑b.length : Int)) = false) ( .call 533 [(.obj 0), (.int ((1 : Int)))] [(.inst 587 1), (sioD (b) (p))] (.str []) [(.inst 587 1), (sioD (b) (p))] ( .need (decide (([] : List Nat) = ([10] : List Nat)) = false) ( .need (decide ((3 : Int) ≤ (0 : Int)) = false) ( .ret .next ⟨[(S "self", (.obj 0)), (S "quoted", (q)), (S "escapedstate", (.str (es))), (S "nextchar", (.str []))], [], [(.inst 722 1), (shD [] [] ([r0]) (D.tt) ([r1, r3]) ([r2]) ([r1]) (st) (ln) (tok)), (.inst 587 3), (sioD (b) (p)), .deq, .deq]⟩)))))))) : T Fl)) (.str u) p) (by kernel_rfl!) ?_)
  dsimp only
  have cl := sread_ok x.w n b p (by omega) hb
  have e1 : rdC b p = [] := by
    unfold rdC
    rw [List.drop_of_length_le (by omega)]; rfl
  have e2 : rdP b p = p := if_neg (by omega)
  rw [e1, e2] at cl
  refine ⟨pcs (u := u) (tok := tok) hx hxn hN _ _ _ _ _ _ _ _ _ _ (by rfl) (by rfl) (by rfl) (by rfl) (by rfl) (by rfl), ok_need (by decide) (ok_need rfl (ok_need ⟨rfl, by omega, by omega, hb⟩ (ok_need (decide_eq_false (by omega)) ⟨⟨n + 1, hxn, cl⟩, ok_need rfl (ok_need rfl h)⟩)))⟩
end
noncomputable def InS (r0 r1 r2 r3 : Nat) (ln : Int) (b : List Nat) (G : List Nat × Bool × Bool × List Nat) (m : Nat) (σ : St) : Prop := ∃ (st : LS) (tok : List Nat) (q : Bool) (p : Nat) (es : List Nat), σ = rtSt r0 r1 r2 r3 (.str (stL r2 st)) ln tok b p (qD q) es ∧ p ≤ b.length ∧ m = b.length - p ∧ tok.length ≤ 2 * p ∧ InvL r1 r3 st tok q es ∧ lexR r0 r1 r2 r3 st tok q (b.drop p) = some G
noncomputable def tup2 : AO := .tup [.str [97], .str [99]]
theorem leafN {r0 r1 r2 r3 : Nat} {ln : Int} {b : List Nat} {G : List Nat × Bool × Bool × List Nat} {P : Fl → St → Prop} (f : Fl) (hf : f = .next ∨ f = .cont) (st : LS) (tok : List Nat) (q : Bool) (es nc : List Nat) (p : Nat) (ex : List AO) (hex : ex = [] ∨ ex = [tup2]) (hp : p < b.length) (ht : tok.length ≤ 2 * (p + 1)) (hi : InvL r1 r3 st tok q es) (hG : lexR r0 r1 r2 r3 st tok q (b.drop (p + 1)) = some G) :
    wTurn 6 (b.length - p) (InS r0 r1 r2 r3 ln b G) P f ⟨[(S "self", .obj 0), (S "quoted", qD q), (S "escapedstate", .str es), (S "nextchar", .str nc)], [], shOs (shR r0 r1 r2 r3 (.str (stL r2 st)) ln tok) b ((p : Int) + 1) ++ ex⟩ := by
  have core : Cut 6 ⟨[(S "self", .obj 0), (S "quoted", qD q), (S "escapedstate", .str es), (S "nextchar", .str nc)], [], shOs (shR r0 r1 r2 r3 (.str (stL r2 st)) ln tok) b ((p : Int) + 1) ++ ex⟩ (InS r0 r1 r2 r3 ln b G (b.length - (p + 1))) := by
    rcases hex with rfl | rfl
    · cases q
      · exact ⟨[0, 1, 2, 3, 4, 5], 3, by rfl, st, tok, false, p + 1, es, by rfl, by omega, rfl, ht, hi, hG⟩
      · exact ⟨[0, 1, 2, 3, 4, 5], 3, by rfl, st, tok, true, p + 1, es, by rfl, by omega, rfl, ht, hi, hG⟩
    · cases q
      · exact ⟨[0, 1, 2, 3, 4, 5], 3, by rfl, st, tok, false, p + 1, es, by rfl, by omega, rfl, ht, hi, hG⟩
      · exact ⟨[0, 1, 2, 3, 4, 5], 3, by rfl, st, tok, true, p + 1, es, by rfl, by omega, rfl, ht, hi, hG⟩
  rcases hf with rfl | rfl
  · exact ⟨b.length - (p + 1), by omega, core⟩
  · exact ⟨b.length - (p + 1), by omega, core⟩
theorem s1n (c : Nat) : [c].length ≤ sizeLine := (by decide : 1 ≤ sizeLine)
theorem s0n : ([] : List Nat).length ≤ sizeLine := (by decide : 0 ≤ sizeLine)
section
variable {r0 r1 r2 r3 : Nat} (ro : Ro r0 r1 r2 r3) {ln : Int} {b : List Nat} {x : Fx} {n : Nat}
theorem turn_sp (ro : Ro r0 r1 r2 r3) (hx : x.Ok) (hxn : x.n = n + 2) (hN : x.env.scope.names = c6.N) {G : List Nat × Bool × Bool × List Nat} {P : Fl → St → Prop} (es : List Nat) (p c : Nat) (hp : p < b.length) (hG : lexR r0 r1 r2 r3 .sp [] false (c :: b.drop (p + 1)) = some G) :
    ExOk x ((wBody W6).drop 3) (rt1 r0 r1 r2 r3 (.str [32]) ln [] b ((p : Int) + 1) .ff es [c]) (wTurn 6 (b.length - p) (InS r0 r1 r2 r3 ln b G) P) := by
  have hG : (if c = r0 then lexR r0 r1 r2 r3 .sp [] false (b.drop (p + 1)) else if c = r2 then lexR r0 r1 r2 r3 (.esc 97) [] false (b.drop (p + 1)) else if c ∈ [r1, r3] then lexR r0 r1 r2 r3 (.inq c) [] false (b.drop (p + 1)) else lexR r0 r1 r2 r3 .wd [c] false (b.drop (p + 1))) = some G := hG
  by_cases h0 : c = r0
  · rw [if_pos h0] at hG
    refine ExOk.tree (c := c6) hx hN (n := 40) (ok_path (ws := [true, false, true, false, false]) (t' := (fun (p : Int) => (.need (decide ([(32 : Nat)] = ([32] : List Nat)) = true) ( .need ([c].length ≤ sizeLine) ( .need ((!!decide ([c] = [])) = false) ( .need (inS [c] [r0] = true) ( .need (decide ((2 : Int) ≤ (0 : Int)) = false) ( .need (([] : List Nat).length ≤ sizeLine) ( .need ((!decide (([] : List Nat) = [])) = false) ( .ret .cont ⟨[(S "self", (.obj 0)), (S "quoted", (D.ff)), (S "escapedstate", (.str (es))), (S "nextchar", (.str ([c])))], [], [(.inst 722 1), (shD [] [] ([r0]) (D.tt) ([r1, r3]) ([r2]) ([r1]) (.str [32]) (ln) []), (.inst 587 3), (sioD (b) (p)), .deq, .deq]⟩))))))) : T Fl)) ((p : Int) + 1)) (by kernel_rfl!) ?_)
    exact ok_need rfl (ok_need (s1n c) (ok_need rfl (ok_need (iT (by simp [h0])) (ok_need rfl (ok_need s0n (ok_need rfl (leafN .cont (.inr rfl) .sp [] false es [c] p [] (.inl rfl) hp (by simp) ⟨rfl, rfl⟩ hG)))))))
  rw [if_neg h0] at hG
  by_cases h2 : c = r2
  · rw [if_pos h2] at hG
    subst h2
    refine ExOk.tree (c := c6) hx hN (n := 40) (ok_path (ws := [true, false, false, false, true]) (t' := (fun (r2 : Nat) (p : Int) => (.need (decide ([(32 : Nat)] = ([32] : List Nat)) = true) ( .need ([c].length ≤ sizeLine) ( .need ((!!decide ([c] = [])) = false) ( .need (inS [c] [r0] = false) ( .need (inS [c] [] = false) ( .need (inS [c] [r2] = true) ( .ret .next ⟨[(S "self", (.obj 0)), (S "quoted", (D.ff)), (S "escapedstate", (.str [97])), (S "nextchar", (.str ([c])))], [], [(.inst 722 1), (shD [] [] ([r0]) (D.tt) ([r1, r3]) ([r2]) ([r1]) (.str ([c])) (ln) []), (.inst 587 3), (sioD (b) (p)), .deq, .deq]⟩)))))) : T Fl)) c ((p : Int) + 1)) (by kernel_rfl!) ?_)
    exact ok_need rfl (ok_need (s1n c) (ok_need rfl (ok_need (iF (by simp [h0])) (ok_need (iN c) (ok_need (iT (by simp)) (leafN .next (.inl rfl) (.esc 97) [] false [97] [c] p [] (.inl rfl) hp (by simp) ⟨rfl, .inl rfl⟩ hG))))))
  rw [if_neg h2] at hG
  by_cases h1 : c ∈ [r1, r3]
  · rw [if_pos h1] at hG
    refine ExOk.tree (c := c6) hx hN (n := 40) (ok_path (ws := [true, false, false, false, false, false, false, true]) (t' := (fun (p : Int) => (.need (decide ([(32 : Nat)] = ([32] : List Nat)) = true) ( .need ([c].length ≤ sizeLine) ( .need ((!!decide ([c] = [])) = false) ( .need (inS [c] [r0] = false) ( .need (inS [c] [] = false) ( .need (inS [c] [r2] = false) ( .need (inS [c] [] = false) ( .ext (pcX 602 33 602 55 602 33 602 37) ⟨[(S "self", (.obj 0)), (S "quoted", (D.ff)), (S "escapedstate", (.str (es))), (S "nextchar", (.str ([c])))], [], [(.inst 722 1), (shD [] [] ([r0]) (D.tt) ([r1, r3]) ([r2]) ([r1]) (.str [32]) (ln) []), (.inst 587 3), (sioD (b) (p)), .deq, .deq]⟩ (.str []) ⟨[(S "self", (.obj 0)), (S "quoted", (D.ff)), (S "escapedstate", (.str (es))), (S "nextchar", (.str ([c])))], [], [(.inst 722 1), (shD [] [] ([r0]) (D.tt) ([r1, r3]) ([r2]) ([r1]) (.str [32]) (ln) []), (.inst 587 3), (sioD (b) (p)), .deq, .deq]⟩ ( .need (inS [c] [] = false) ( .need (inS [c] [r1, r3] = true) ( .ret .next ⟨[(S "self", (.obj 0)), (S "quoted", (D.ff)), (S "escapedstate", (.str (es))), (S "nextchar", (.str ([c])))], [], [(.inst 722 1), (shD [] [] ([r0]) (D.tt) ([r1, r3]) ([r2]) ([r1]) (.str ([c])) (ln) []), (.inst 587 3), (sioD (b) (p)), .deq, .deq]⟩)))))))))) : T Fl)) ((p : Int) + 1)) (by kernel_rfl!) ?_)
    exact ok_need rfl (ok_need (s1n c) (ok_need rfl (ok_need (iF (by simp [h0])) (ok_need (iN c) (ok_need (iF (by simp [h2])) (ok_need (iN c) ⟨pcs (u := [32]) (tok := []) hx hxn hN _ _ _ _ _ _ _ _ _ _ (by rfl) (by rfl) (by rfl) (by rfl) (by rfl) (by rfl), ok_need (iN c) (ok_need (iT h1) (leafN .next (.inl rfl) (.inq c) [] false es [c] p [] (.inl rfl) hp (by simp) h1 hG))⟩))))))
  · rw [if_neg h1] at hG
    refine ExOk.tree (c := c6) hx hN (n := 40) (ok_path (ws := [true, false, false, false, false, false, false, false]) (t' := (fun (p : Int) => (.need (decide ([(32 : Nat)] = ([32] : List Nat)) = true) ( .need ([c].length ≤ sizeLine) ( .need ((!!decide ([c] = [])) = false) ( .need (inS [c] [r0] = false) ( .need (inS [c] [] = false) ( .need (inS [c] [r2] = false) ( .need (inS [c] [] = false) ( .ext (pcX 602 33 602 55 602 33 602 37) ⟨[(S "self", (.obj 0)), (S "quoted", (D.ff)), (S "escapedstate", (.str (es))), (S "nextchar", (.str ([c])))], [], [(.inst 722 1), (shD [] [] ([r0]) (D.tt) ([r1, r3]) ([r2]) ([r1]) (.str [32]) (ln) []), (.inst 587 3), (sioD (b) (p)), .deq, .deq]⟩ (.str []) ⟨[(S "self", (.obj 0)), (S "quoted", (D.ff)), (S "escapedstate", (.str (es))), (S "nextchar", (.str ([c])))], [], [(.inst 722 1), (shD [] [] ([r0]) (D.tt) ([r1, r3]) ([r2]) ([r1]) (.str [32]) (ln) []), (.inst 587 3), (sioD (b) (p)), .deq, .deq]⟩ ( .need (inS [c] [] = false) ( .need (inS [c] [r1, r3] = false) ( .ret .next ⟨[(S "self", (.obj 0)), (S "quoted", (D.ff)), (S "escapedstate", (.str (es))), (S "nextchar", (.str ([c])))], [], [(.inst 722 1), (shD [] [] ([r0]) (D.tt) ([r1, r3]) ([r2]) ([r1]) (.str [97]) (ln) ([c])), (.inst 587 3), (sioD (b) (p)), .deq, .deq]⟩)))))))))) : T Fl)) ((p : Int) + 1)) (by kernel_rfl!) ?_)
    exact ok_need rfl (ok_need (s1n c) (ok_need rfl (ok_need (iF (by simp [h0])) (ok_need (iN c) (ok_need (iF (by simp [h2])) (ok_need (iN c) ⟨pcs (u := [32]) (tok := []) hx hxn hN _ _ _ _ _ _ _ _ _ _ (by rfl) (by rfl) (by rfl) (by rfl) (by rfl) (by rfl), ok_need (iN c) (ok_need (iF h1) (leafN .next (.inl rfl) .wd [c] false es [c] p [] (.inl rfl) hp (by simp; omega) (.inl (by simp)) hG))⟩))))))
theorem turn_inq (ro : Ro r0 r1 r2 r3) (hx : x.Ok) (hxn : x.n = n + 2) (hN : x.env.scope.names = c6.N) (hb : b.length < 1000000) {G : List Nat × Bool × Bool × List Nat} {P : Fl → St → Prop} (a : Nat) (tok : List Nat) (q : Bool) (es : List Nat) (p c : Nat) (hp : p < b.length) (ha : a ∈ [r1, r3]) (ht : tok.length ≤ 2 * p) (hG : lexR r0 r1 r2 r3 (.inq a) tok q (c :: b.drop (p + 1)) = some G) :
    ExOk x ((wBody W6).drop 3) (rt1 r0 r1 r2 r3 (.str [a]) ln tok b ((p : Int) + 1) (qD q) es [c]) (wTurn 6 (b.length - p) (InS r0 r1 r2 r3 ln b G) P) := by
  have hsz : 1000000 * 4 ≤ sizeLine := by decide
  have hG : (if c = a then lexR r0 r1 r2 r3 .wd tok true (b.drop (p + 1)) else if c = r2 ∧ a = r1 then lexR r0 r1 r2 r3 (.esc a) tok true (b.drop (p + 1)) else lexR r0 r1 r2 r3 (.inq a) (tok ++ [c]) true (b.drop (p + 1))) = some G := hG
  have b1 := ro.b1
  have b3 := ro.b3
  have ha32 : a ≠ 32 := by
    rcases List.mem_cons.mp ha with rfl | h
    · omega
    · have := List.mem_singleton.mp h; omega
  have hl : tok.length + [c].length ≤ sizeLine := by simp; omega
  by_cases h0 : c = a
  · rw [if_pos h0] at hG
    refine ExOk.tree (c := c6) hx hN (n := 40) (ok_path (ws := [false, true, false, true]) (t' := (fun (q : D) (p : Int) => (.need (decide ([a] = ([32] : List Nat)) = false) ( .need (inS [a] [r1, r3] = true) ( .need ([c].length ≤ sizeLine) ( .need ((!!decide ([c] = [])) = false) ( .need (decide ([c] = [a]) = true) ( .ret .next ⟨[(S "self", (.obj 0)), (S "quoted", (D.tt)), (S "escapedstate", (.str (es))), (S "nextchar", (.str ([c])))], [], [(.inst 722 1), (shD [] [] ([r0]) (D.tt) ([r1, r3]) ([r2]) ([r1]) (.str [97]) (ln) (tok)), (.inst 587 3), (sioD (b) (p)), .deq, .deq]⟩))))) : T Fl)) (qD q) ((p : Int) + 1)) (by kernel_rfl!) ?_)
    exact ok_need (oneF ha32) (ok_need (iT ha) (ok_need (s1n c) (ok_need rfl (ok_need (oneT h0) (leafN .next (.inl rfl) .wd tok true es [c] p [] (.inl rfl) hp (by omega) (.inr rfl) hG)))))
  rw [if_neg h0] at hG
  by_cases h2 : c = r2
  · by_cases h1 : a = r1
    · rw [if_pos ⟨h2, h1⟩] at hG
      subst h2
      refine ExOk.tree (c := c6) hx hN (n := 40) (ok_path (ws := [false, true, false, false, true, true]) (t' := (fun (r2 : Nat) (q : D) (p : Int) => (.need (decide ([a] = ([32] : List Nat)) = false) ( .need (inS [a] [r1, r3] = true) ( .need ([c].length ≤ sizeLine) ( .need ((!!decide ([c] = [])) = false) ( .need (decide ([c] = [a]) = false) ( .need (inS [c] [r2] = true) ( .need (inS [a] [r1] = true) ( .ret .next ⟨[(S "self", (.obj 0)), (S "quoted", (D.tt)), (S "escapedstate", (.str ([a]))), (S "nextchar", (.str ([c])))], [], [(.inst 722 1), (shD [] [] ([r0]) (D.tt) ([r1, r3]) ([r2]) ([r1]) (.str ([c])) (ln) (tok)), (.inst 587 3), (sioD (b) (p)), .deq, .deq]⟩))))))) : T Fl)) c (qD q) ((p : Int) + 1)) (by kernel_rfl!) ?_)
      exact ok_need (oneF ha32) (ok_need (iT ha) (ok_need (s1n c) (ok_need rfl (ok_need (oneF h0) (ok_need (iT (by simp)) (ok_need (iT (by simp [h1])) (leafN .next (.inl rfl) (.esc a) tok true [a] [c] p [] (.inl rfl) hp (by omega) ⟨rfl, .inr h1⟩ hG)))))))
    · rw [if_neg fun z => h1 z.2] at hG
      refine ExOk.tree (c := c6) hx hN (n := 40) (ok_path (ws := [false, true, false, false, true, false]) (t' := (fun (q : D) (p : Int) => (.need (decide ([a] = ([32] : List Nat)) = false) ( .need (inS [a] [r1, r3] = true) ( .need ([c].length ≤ sizeLine) ( .need ((!!decide ([c] = [])) = false) ( .need (decide ([c] = [a]) = false) ( .need (inS [c] [r2] = true) ( .need (inS [a] [r1] = false) ( .need (tok.length + [c].length ≤ sizeLine) ( .ret .next ⟨[(S "self", (.obj 0)), (S "quoted", (D.tt)), (S "escapedstate", (.str (es))), (S "nextchar", (.str ([c])))], [], [(.inst 722 1), (shD [] [] ([r0]) (D.tt) ([r1, r3]) ([r2]) ([r1]) (.str ([a])) (ln) (tok ++ [c])), (.inst 587 3), (sioD (b) (p)), .deq, .deq]⟩)))))))) : T Fl)) (qD q) ((p : Int) + 1)) (by kernel_rfl!) ?_)
      exact ok_need (oneF ha32) (ok_need (iT ha) (ok_need (s1n c) (ok_need rfl (ok_need (oneF h0) (ok_need (iT (by simp [h2])) (ok_need (iF (by simp [h1])) (ok_need hl (leafN .next (.inl rfl) (.inq a) (tok ++ [c]) true es [c] p [] (.inl rfl) hp (by simp; omega) ha hG))))))))
  · rw [if_neg fun z => h2 z.1] at hG
    refine ExOk.tree (c := c6) hx hN (n := 40) (ok_path (ws := [false, true, false, false, false]) (t' := (fun (q : D) (p : Int) => (.need (decide ([a] = ([32] : List Nat)) = false) ( .need (inS [a] [r1, r3] = true) ( .need ([c].length ≤ sizeLine) ( .need ((!!decide ([c] = [])) = false) ( .need (decide ([c] = [a]) = false) ( .need (inS [c] [r2] = false) ( .need (tok.length + [c].length ≤ sizeLine) ( .ret .next ⟨[(S "self", (.obj 0)), (S "quoted", (D.tt)), (S "escapedstate", (.str (es))), (S "nextchar", (.str ([c])))], [], [(.inst 722 1), (shD [] [] ([r0]) (D.tt) ([r1, r3]) ([r2]) ([r1]) (.str ([a])) (ln) (tok ++ [c])), (.inst 587 3), (sioD (b) (p)), .deq, .deq]⟩))))))) : T Fl)) (qD q) ((p : Int) + 1)) (by kernel_rfl!) ?_)
    exact ok_need (oneF ha32) (ok_need (iT ha) (ok_need (s1n c) (ok_need rfl (ok_need (oneF h0) (ok_need (iF (by simp [h2])) (ok_need hl (leafN .next (.inl rfl) (.inq a) (tok ++ [c]) true es [c] p [] (.inl rfl) hp (by simp; omega) ha hG)))))))
theorem turn_esc (ro : Ro r0 r1 r2 r3) (hx : x.Ok) (hxn : x.n = n + 2) (hN : x.env.scope.names = c6.N) (hb : b.length < 1000000) {G : List Nat × Bool × Bool × List Nat} {P : Fl → St → Prop} (e : Nat) (tok : List Nat) (q : Bool) (p c : Nat) (hp : p < b.length) (he : e = 97 ∨ e = r1) (ht : tok.length ≤ 2 * p) (hG : lexR r0 r1 r2 r3 (.esc e) tok q (c :: b.drop (p + 1)) = some G) :
    ExOk x ((wBody W6).drop 3) (rt1 r0 r1 r2 r3 (.str [r2]) ln tok b ((p : Int) + 1) (qD q) [e] [c]) (wTurn 6 (b.length - p) (InS r0 r1 r2 r3 ln b G) P) := by
  have hsz : 1000000 * 4 ≤ sizeLine := by decide
  have hG : (if e = 97 then lexR r0 r1 r2 r3 .wd (tok ++ [c]) q (b.drop (p + 1)) else if c ≠ r2 ∧ c ≠ e then lexR r0 r1 r2 r3 (.inq e) (tok ++ [r2] ++ [c]) q (b.drop (p + 1)) else lexR r0 r1 r2 r3 (.inq e) (tok ++ [c]) q (b.drop (p + 1))) = some G := hG
  have b1 := ro.b1
  have b2 := ro.b2
  have b3 := ro.b3
  have n1 : decide ([r2] = [32]) = false := oneF (by omega)
  have n2 : inS [r2] [r1, r3] = false := iF (by simp [ro.d12.symm, ro.d23])
  have n3 : inS [r2] [r2] = true := iT (by simp)
  have hl : tok.length + [c].length ≤ sizeLine := by simp; omega
  by_cases h9 : e = 97
  · rw [if_pos h9] at hG
    subst h9
    refine ExOk.tree (c := c6) hx hN (n := 40) (ok_path (ws := [false, false, true, false, false]) (t' := (fun (q : D) (p : Int) => (.need (decide ([r2] = ([32] : List Nat)) = false) ( .need (inS [r2] [r1, r3] = false) ( .need (inS [r2] [r2] = true) ( .need ([c].length ≤ sizeLine) ( .need ((!!decide ([c] = [])) = false) ( .need (inS [(97 : Nat)] [r1, r3] = false) ( .need (tok.length + [c].length ≤ sizeLine) ( .ret .next ⟨[(S "self", (.obj 0)), (S "quoted", (q)), (S "escapedstate", (.str [97])), (S "nextchar", (.str ([c])))], [], [(.inst 722 1), (shD [] [] ([r0]) (D.tt) ([r1, r3]) ([r2]) ([r1]) (.str [97]) (ln) (tok ++ [c])), (.inst 587 3), (sioD (b) (p)), .deq, .deq]⟩))))))) : T Fl)) (qD q) ((p : Int) + 1)) (by kernel_rfl!) ?_)
    exact ok_need n1 (ok_need n2 (ok_need n3 (ok_need (s1n c) (ok_need rfl (ok_need (iF (by simp; omega)) (ok_need hl (leafN .next (.inl rfl) .wd (tok ++ [c]) q [97] [c] p [] (.inl rfl) hp (by simp; omega) (.inl (by simp)) hG)))))))
  have h1 : e = r1 := he.resolve_left h9
  rw [if_neg h9] at hG
  have n4 : inS [e] [r1, r3] = true := iT (by simp [h1])
  by_cases h2 : c = r2
  · rw [if_neg fun z => z.1 h2] at hG
    refine ExOk.tree (c := c6) hx hN (n := 40) (ok_path (ws := [false, false, true, false, true, false]) (t' := (fun (q : D) (p : Int) => (.need (decide ([r2] = ([32] : List Nat)) = false) ( .need (inS [r2] [r1, r3] = false) ( .need (inS [r2] [r2] = true) ( .need ([c].length ≤ sizeLine) ( .need ((!!decide ([c] = [])) = false) ( .need (inS [e] [r1, r3] = true) ( .need ((!decide ([c] = [r2])) = false) ( .need (tok.length + [c].length ≤ sizeLine) ( .ret .next ⟨[(S "self", (.obj 0)), (S "quoted", (q)), (S "escapedstate", (.str ([e]))), (S "nextchar", (.str ([c])))], [], [(.inst 722 1), (shD [] [] ([r0]) (D.tt) ([r1, r3]) ([r2]) ([r1]) (.str ([e])) (ln) (tok ++ [c])), (.inst 587 3), (sioD (b) (p)), .deq, .deq]⟩)))))))) : T Fl)) (qD q) ((p : Int) + 1)) (by kernel_rfl!) ?_)
    exact ok_need n1 (ok_need n2 (ok_need n3 (ok_need (s1n c) (ok_need rfl (ok_need n4 (ok_need (show (!decide ([c] = [r2])) = false by rw [oneT h2]; rfl) (ok_need hl (leafN .next (.inl rfl) (.inq e) (tok ++ [c]) q [e] [c] p [] (.inl rfl) hp (by simp; omega) (by simp [InvL, h1]) hG))))))))
  by_cases h3 : c = e
  · rw [if_neg fun z => z.2 h3] at hG
    refine ExOk.tree (c := c6) hx hN (n := 40) (ok_path (ws := [false, false, true, false, true, true, false]) (t' := (fun (q : D) (p : Int) => (.need (decide ([r2] = ([32] : List Nat)) = false) ( .need (inS [r2] [r1, r3] = false) ( .need (inS [r2] [r2] = true) ( .need ([c].length ≤ sizeLine) ( .need ((!!decide ([c] = [])) = false) ( .need (inS [e] [r1, r3] = true) ( .need ((!decide ([c] = [r2])) = true) ( .need ((!decide ([c] = [e])) = false) ( .need (tok.length + [c].length ≤ sizeLine) ( .ret .next ⟨[(S "self", (.obj 0)), (S "quoted", (q)), (S "escapedstate", (.str ([e]))), (S "nextchar", (.str ([c])))], [], [(.inst 722 1), (shD [] [] ([r0]) (D.tt) ([r1, r3]) ([r2]) ([r1]) (.str ([e])) (ln) (tok ++ [c])), (.inst 587 3), (sioD (b) (p)), .deq, .deq]⟩))))))))) : T Fl)) (qD q) ((p : Int) + 1)) (by kernel_rfl!) ?_)
    exact ok_need n1 (ok_need n2 (ok_need n3 (ok_need (s1n c) (ok_need rfl (ok_need n4 (ok_need (show (!decide ([c] = [r2])) = true by rw [oneF h2]; rfl) (ok_need (show (!decide ([c] = [e])) = false by rw [oneT h3]; rfl) (ok_need hl (leafN .next (.inl rfl) (.inq e) (tok ++ [c]) q [e] [c] p [] (.inl rfl) hp (by simp; omega) (by simp [InvL, h1]) hG)))))))))
  · rw [if_pos ⟨h2, h3⟩] at hG
    refine ExOk.tree (c := c6) hx hN (n := 40) (ok_path (ws := [false, false, true, false, true, true, true]) (t' := (fun (q : D) (p : Int) => (.need (decide ([r2] = ([32] : List Nat)) = false) ( .need (inS [r2] [r1, r3] = false) ( .need (inS [r2] [r2] = true) ( .need ([c].length ≤ sizeLine) ( .need ((!!decide ([c] = [])) = false) ( .need (inS [e] [r1, r3] = true) ( .need ((!decide ([c] = [r2])) = true) ( .need ((!decide ([c] = [e])) = true) ( .need (tok.length + [r2].length ≤ sizeLine) ( .need ((tok ++ [r2]).length + [c].length ≤ sizeLine) ( .ret .next ⟨[(S "self", (.obj 0)), (S "quoted", (q)), (S "escapedstate", (.str ([e]))), (S "nextchar", (.str ([c])))], [], [(.inst 722 1), (shD [] [] ([r0]) (D.tt) ([r1, r3]) ([r2]) ([r1]) (.str ([e])) (ln) (tok ++ [r2] ++ [c])), (.inst 587 3), (sioD (b) (p)), .deq, .deq]⟩)))))))))) : T Fl)) (qD q) ((p : Int) + 1)) (by kernel_rfl!) ?_)
    exact ok_need n1 (ok_need n2 (ok_need n3 (ok_need (s1n c) (ok_need rfl (ok_need n4 (ok_need (show (!decide ([c] = [r2])) = true by rw [oneF h2]; rfl) (ok_need (show (!decide ([c] = [e])) = true by rw [oneF h3]; rfl) (ok_need (show tok.length + [r2].length ≤ sizeLine by simp; omega) (ok_need (show (tok ++ [r2]).length + [c].length ≤ sizeLine by simp; omega) (leafN .next (.inl rfl) (.inq e) (tok ++ [r2] ++ [c]) q [e] [c] p [] (.inl rfl) hp (by simp; omega) (by simp [InvL, h1]) hG))))))))))
end
end
end Mine
namespace Mine
noncomputable section
section
variable {r0 r1 r2 r3 : Nat} {ln : Int} {b : List Nat} {x : Fx} {n : Nat}
noncomputable def brSt (r0 r1 r2 r3 : Nat) (ln : Int) (b : List Nat) (st : D) (tok : List Nat) (q : Bool) (es nc : List Nat) (p : Nat) (ex : List AO) : St := ⟨[(S "self", .obj 0), (S "quoted", qD q), (S "escapedstate", .str es), (S "nextchar", .str nc)], [], shOs (shR r0 r1 r2 r3 st ln tok) b p ++ ex⟩
theorem turn_wd (ro : Ro r0 r1 r2 r3) (hx : x.Ok) (hxn : x.n = n + 2) (hN : x.env.scope.names = c6.N) (hb : b.length < 1000000) {G : List Nat × Bool × Bool × List Nat} {P : Fl → St → Prop} (tok : List Nat) (q : Bool) (es : List Nat) (p c : Nat) (hp : p < b.length) (hi : tok ≠ [] ∨ q = true) (ht : tok.length ≤ 2 * p) (hG : lexR r0 r1 r2 r3 .wd tok q (c :: b.drop (p + 1)) = some G)
    (hW : G = (tok, q, false, b.drop (p + 1)) → P .next (brSt r0 r1 r2 r3 ln b (.str [32]) tok q es [c] (p + 1) [tup2])) :
    ExOk x ((wBody W6).drop 3) (rt1 r0 r1 r2 r3 (.str [97]) ln tok b ((p : Int) + 1) (qD q) es [c]) (wTurn 6 (b.length - p) (InS r0 r1 r2 r3 ln b G) P) := by
  have hsz : 1000000 * 4 ≤ sizeLine := by decide
  have hG : (if c = r0 then some (tok, q, false, b.drop (p + 1)) else if c ∈ [r1, r3] then lexR r0 r1 r2 r3 (.inq c) tok q (b.drop (p + 1)) else if c = r2 then lexR r0 r1 r2 r3 (.esc 97) tok q (b.drop (p + 1)) else lexR r0 r1 r2 r3 .wd (tok ++ [c]) q (b.drop (p + 1))) = some G := hG
  have b1 := ro.b1
  have b2 := ro.b2
  have b3 := ro.b3
  have m1 : inS [97] [r1, r3] = false := iF (by simp; omega)
  have m2 : inS [97] [r2] = false := iF (by simp; omega)
  have m3 : ([D.str ([97] : List Nat), D.str ([99] : List Nat)].length ≤ sizeLine) := (by decide : 2 ≤ sizeLine)
  have hl : tok.length + [c].length ≤ sizeLine := by simp; omega
  by_cases h0 : c = r0
  · rw [if_pos h0] at hG
    have hW := hW (Option.some.inj hG).symm
    by_cases htk : tok = []
    · have hq : q = true := hi.resolve_left fun z => z htk
      subst hq
      refine ExOk.tree (c := c6) hx hN (n := 40) (ok_path (ws := [false, false, false, true, false, true, false, false]) (t' := (fun (p : Int) => (.need (decide ([(97 : Nat)] = ([32] : List Nat)) = false) ( .need (inS [(97 : Nat)] [r1, r3] = false) ( .need (inS [(97 : Nat)] [r2] = false) ( .need ([D.str ([97] : List Nat), D.str ([99] : List Nat)].length ≤ sizeLine) ( .need (([([97] : List Nat), ([99] : List Nat)].any fun y => decide (y = [(97 : Nat)])) = true) ( .need ([c].length ≤ sizeLine) ( .need ((!!decide ([c] = [])) = false) ( .need (inS [c] [r0] = true) ( .need (decide ((2 : Int) ≤ (0 : Int)) = false) ( .need (tok.length ≤ sizeLine) ( .need ((!decide (tok = [])) = false) ( .ret .brk ⟨[(S "self", (.obj 0)), (S "quoted", (D.tt)), (S "escapedstate", (.str (es))), (S "nextchar", (.str ([c])))], [], [(.inst 722 1), (shD [] [] ([r0]) (D.tt) ([r1, r3]) ([r2]) ([r1]) (.str [32]) (ln) (tok)), (.inst 587 3), (sioD (b) (p)), .deq, .deq, (.tup [(.str [97]), (.str [99])])]⟩))))))))))) : T Fl)) ((p : Int) + 1)) (by kernel_rfl!) ?_)
      exact ok_need rfl (ok_need m1 (ok_need m2 (ok_need m3 (ok_need rfl (ok_need (s1n c) (ok_need rfl (ok_need (iT (by simp [h0])) (ok_need rfl (ok_need (by omega) (ok_need (show (!decide (tok = [])) = false by rw [decide_eq_true htk]; rfl) hW))))))))))
    · refine ExOk.tree (c := c6) hx hN (n := 40) (ok_path (ws := [false, false, false, true, false, true, false, true]) (t' := (fun (q : D) (p : Int) => (.need (decide ([(97 : Nat)] = ([32] : List Nat)) = false) ( .need (inS [(97 : Nat)] [r1, r3] = false) ( .need (inS [(97 : Nat)] [r2] = false) ( .need ([D.str ([97] : List Nat), D.str ([99] : List Nat)].length ≤ sizeLine) ( .need (([([97] : List Nat), ([99] : List Nat)].any fun y => decide (y = [(97 : Nat)])) = true) ( .need ([c].length ≤ sizeLine) ( .need ((!!decide ([c] = [])) = false) ( .need (inS [c] [r0] = true) ( .need (decide ((2 : Int) ≤ (0 : Int)) = false) ( .need (tok.length ≤ sizeLine) ( .need ((!decide (tok = [])) = true) ( .ret .brk ⟨[(S "self", (.obj 0)), (S "quoted", (q)), (S "escapedstate", (.str (es))), (S "nextchar", (.str ([c])))], [], [(.inst 722 1), (shD [] [] ([r0]) (D.tt) ([r1, r3]) ([r2]) ([r1]) (.str [32]) (ln) (tok)), (.inst 587 3), (sioD (b) (p)), .deq, .deq, (.tup [(.str [97]), (.str [99])])]⟩))))))))))) : T Fl)) (qD q) ((p : Int) + 1)) (by kernel_rfl!) ?_)
      exact ok_need rfl (ok_need m1 (ok_need m2 (ok_need m3 (ok_need rfl (ok_need (s1n c) (ok_need rfl (ok_need (iT (by simp [h0])) (ok_need rfl (ok_need (by omega) (ok_need (show (!decide (tok = [])) = true by rw [decide_eq_false htk]; rfl) hW))))))))))
  rw [if_neg h0] at hG
  by_cases h1 : c ∈ [r1, r3]
  · rw [if_pos h1] at hG
    refine ExOk.tree (c := c6) hx hN (n := 40) (ok_path (ws := [false, false, false, true, false, false, false, false, true]) (t' := (fun (q : D) (p : Int) => (.need (decide ([(97 : Nat)] = ([32] : List Nat)) = false) ( .need (inS [(97 : Nat)] [r1, r3] = false) ( .need (inS [(97 : Nat)] [r2] = false) ( .need ([D.str ([97] : List Nat), D.str ([99] : List Nat)].length ≤ sizeLine) ( .need (([([97] : List Nat), ([99] : List Nat)].any fun y => decide (y = [(97 : Nat)])) = true) ( .need ([c].length ≤ sizeLine) ( .need ((!!decide ([c] = [])) = false) ( .need (inS [c] [r0] = false) ( .need (inS [c] [] = false) ( .need (decide ([(97 : Nat)] = ([99] : List Nat)) = false) ( .need (inS [c] [r1, r3] = true) ( .ret .next ⟨[(S "self", (.obj 0)), (S "quoted", (q)), (S "escapedstate", (.str (es))), (S "nextchar", (.str ([c])))], [], [(.inst 722 1), (shD [] [] ([r0]) (D.tt) ([r1, r3]) ([r2]) ([r1]) (.str ([c])) (ln) (tok)), (.inst 587 3), (sioD (b) (p)), .deq, .deq, (.tup [(.str [97]), (.str [99])])]⟩))))))))))) : T Fl)) (qD q) ((p : Int) + 1)) (by kernel_rfl!) ?_)
    exact ok_need rfl (ok_need m1 (ok_need m2 (ok_need m3 (ok_need rfl (ok_need (s1n c) (ok_need rfl (ok_need (iF (by simp [h0])) (ok_need (iN c) (ok_need rfl (ok_need (iT h1) (leafN .next (.inl rfl) (.inq c) tok q es [c] p [tup2] (.inr rfl) hp (by omega) h1 hG)))))))))))
  rw [if_neg h1] at hG
  by_cases h2 : c = r2
  · rw [if_pos h2] at hG
    subst h2
    refine ExOk.tree (c := c6) hx hN (n := 40) (ok_path (ws := [false, false, false, true, false, false, false, false, false, true]) (t' := (fun (r2 : Nat) (q : D) (p : Int) => (.need (decide ([(97 : Nat)] = ([32] : List Nat)) = false) ( .need (inS [(97 : Nat)] [r1, r3] = false) ( .need (inS [(97 : Nat)] [r2] = false) ( .need ([D.str ([97] : List Nat), D.str ([99] : List Nat)].length ≤ sizeLine) ( .need (([([97] : List Nat), ([99] : List Nat)].any fun y => decide (y = [(97 : Nat)])) = true) ( .need ([c].length ≤ sizeLine) ( .need ((!!decide ([c] = [])) = false) ( .need (inS [c] [r0] = false) ( .need (inS [c] [] = false) ( .need (decide ([(97 : Nat)] = ([99] : List Nat)) = false) ( .need (inS [c] [r1, r3] = false) ( .need (inS [c] [r2] = true) ( .ret .next ⟨[(S "self", (.obj 0)), (S "quoted", (q)), (S "escapedstate", (.str [97])), (S "nextchar", (.str ([c])))], [], [(.inst 722 1), (shD [] [] ([r0]) (D.tt) ([r1, r3]) ([r2]) ([r1]) (.str ([c])) (ln) (tok)), (.inst 587 3), (sioD (b) (p)), .deq, .deq, (.tup [(.str [97]), (.str [99])])]⟩)))))))))))) : T Fl)) c (qD q) ((p : Int) + 1)) (by kernel_rfl!) ?_)
    exact ok_need rfl (ok_need m1 (ok_need m2 (ok_need m3 (ok_need rfl (ok_need (s1n c) (ok_need rfl (ok_need (iF (by simp [h0])) (ok_need (iN c) (ok_need rfl (ok_need (iF h1) (ok_need (iT (by simp)) (leafN .next (.inl rfl) (.esc 97) tok q [97] [c] p [tup2] (.inr rfl) hp (by omega) ⟨rfl, .inl rfl⟩ hG))))))))))))
  · rw [if_neg h2] at hG
    have hpc : ∀ a1 a2 a3 a4 a5 a6 a7 a8, EvOk x (pcX a1 a2 a3 a4 a5 a6 a7 a8) ⟨[(S "self", .obj 0), (S "quoted", qD q), (S "escapedstate", .str es), (S "nextchar", .str [c])], [], shOs (shR r0 r1 r2 r3 (.str [97]) ln tok) b ((p : Int) + 1) ++ [tup2]⟩ fun d' o => d' = .str [] ∧ o = ⟨[(S "self", .obj 0), (S "quoted", qD q), (S "escapedstate", .str es), (S "nextchar", .str [c])], [], shOs (shR r0 r1 r2 r3 (.str [97]) ln tok) b ((p : Int) + 1) ++ [tup2]⟩ :=
      fun a1 a2 a3 a4 a5 a6 a7 a8 => pcs (u := [97]) (tok := tok) hx hxn hN _ _ _ _ _ _ _ _ _ _ (by rfl) (by rfl) (by rfl) (by rfl) (by rfl) (by rfl)
    refine ExOk.tree (c := c6) hx hN (n := 40) (ok_path (ws := [false, false, false, true, false, false, false, false, false, false, false, false, true]) (t' := (fun (q : D) (p : Int) => (.need (decide ([(97 : Nat)] = ([32] : List Nat)) = false) ( .need (inS [(97 : Nat)] [r1, r3] = false) ( .need (inS [(97 : Nat)] [r2] = false) ( .need ([D.str ([97] : List Nat), D.str ([99] : List Nat)].length ≤ sizeLine) ( .need (([([97] : List Nat), ([99] : List Nat)].any fun y => decide (y = [(97 : Nat)])) = true) ( .need ([c].length ≤ sizeLine) ( .need ((!!decide ([c] = [])) = false) ( .need (inS [c] [r0] = false) ( .need (inS [c] [] = false) ( .need (decide ([(97 : Nat)] = ([99] : List Nat)) = false) ( .need (inS [c] [r1, r3] = false) ( .need (inS [c] [r2] = false) ( .need (inS [c] [] = false) ( .need (inS [c] [r1, r3] = false) ( .ext (pcX 679 121 679 143 679 121 679 125) ⟨[(S "self", (.obj 0)), (S "quoted", (q)), (S "escapedstate", (.str (es))), (S "nextchar", (.str ([c])))], [], [(.inst 722 1), (shD [] [] ([r0]) (D.tt) ([r1, r3]) ([r2]) ([r1]) (.str [97]) (ln) (tok)), (.inst 587 3), (sioD (b) (p)), .deq, .deq, (.tup [(.str [97]), (.str [99])])]⟩ (.str []) ⟨[(S "self", (.obj 0)), (S "quoted", (q)), (S "escapedstate", (.str (es))), (S "nextchar", (.str ([c])))], [], [(.inst 722 1), (shD [] [] ([r0]) (D.tt) ([r1, r3]) ([r2]) ([r1]) (.str [97]) (ln) (tok)), (.inst 587 3), (sioD (b) (p)), .deq, .deq, (.tup [(.str [97]), (.str [99])])]⟩ ( .need ((!inS [c] []) = true) ( .need (tok.length + [c].length ≤ sizeLine) ( .ret .next ⟨[(S "self", (.obj 0)), (S "quoted", (q)), (S "escapedstate", (.str (es))), (S "nextchar", (.str ([c])))], [], [(.inst 722 1), (shD [] [] ([r0]) (D.tt) ([r1, r3]) ([r2]) ([r1]) (.str [97]) (ln) (tok ++ [c])), (.inst 587 3), (sioD (b) (p)), .deq, .deq, (.tup [(.str [97]), (.str [99])])]⟩))))))))))))))))) : T Fl)) (qD q) ((p : Int) + 1)) (by kernel_rfl!) ?_)
    exact ok_need rfl (ok_need m1 (ok_need m2 (ok_need m3 (ok_need rfl (ok_need (s1n c) (ok_need rfl (ok_need (iF (by simp [h0])) (ok_need (iN c) (ok_need rfl (ok_need (iF h1) (ok_need (iF (by simp [h2])) (ok_need (iN c) (ok_need (iF h1) ⟨hpc _ _ _ _ _ _ _ _, ok_need (show (!inS [c] []) = true by rw [iN]; rfl) (ok_need hl (leafN .next (.inl rfl) .wd (tok ++ [c]) q es [c] p [tup2] (.inr rfl) hp (by simp; omega) (.inl (by simp)) hG))⟩)))))))))))))
theorem eof_sp (ro : Ro r0 r1 r2 r3) (hx : x.Ok) (hN : x.env.scope.names = c6.N) {k m : Nat} {I : Nat → St → Prop} {P : Fl → St → Prop} (es : List Nat) (p : Nat) (hE : P .next (brSt r0 r1 r2 r3 ln b .none [] false es [] p [])) :
    ExOk x ((wBody W6).drop 3) (rt1 r0 r1 r2 r3 (.str [32]) ln [] b p .ff es []) (wTurn k m I P) := by
  refine ExOk.tree (c := c6) hx hN (n := 40) (ok_path (ws := [true, true]) (t' := .need (decide ([(32 : Nat)] = [32]) = true) (.need (([] : List Nat).length ≤ sizeLine) (.need ((!!decide (([] : List Nat) = [])) = true) (.ret .brk (brSt r0 r1 r2 r3 ln b .none [] false es [] p []))))) (by kernel_rfl!) ?_)
  exact ok_need rfl (ok_need s0n (ok_need rfl hE))
theorem eof_wd (ro : Ro r0 r1 r2 r3) (hx : x.Ok) (hN : x.env.scope.names = c6.N) {k m : Nat} {I : Nat → St → Prop} {P : Fl → St → Prop} (tok : List Nat) (q : Bool) (es : List Nat) (p : Nat) (hE : P .next (brSt r0 r1 r2 r3 ln b .none tok q es [] p [tup2])) :
    ExOk x ((wBody W6).drop 3) (rt1 r0 r1 r2 r3 (.str [97]) ln tok b p (qD q) es []) (wTurn k m I P) := by
  have b1 := ro.b1
  have b2 := ro.b2
  have b3 := ro.b3
  have m1 : inS [97] [r1, r3] = false := iF (by simp; omega)
  have m2 : inS [97] [r2] = false := iF (by simp; omega)
  have m3 : ([D.str ([97] : List Nat), D.str ([99] : List Nat)].length ≤ sizeLine) := (by decide : 2 ≤ sizeLine)
  refine ExOk.tree (c := c6) hx hN (n := 40) (ok_path (ws := [false, false, false, true, true]) (t' := (fun (q : D) (p : Int) => (.need (decide ([(97 : Nat)] = ([32] : List Nat)) = false) ( .need (inS [(97 : Nat)] [r1, r3] = false) ( .need (inS [(97 : Nat)] [r2] = false) ( .need ([D.str ([97] : List Nat), D.str ([99] : List Nat)].length ≤ sizeLine) ( .need (([([97] : List Nat), ([99] : List Nat)].any fun y => decide (y = [(97 : Nat)])) = true) ( .need (([] : List Nat).length ≤ sizeLine) ( .need ((!!decide (([] : List Nat) = [])) = true) ( .ret .brk ⟨[(S "self", (.obj 0)), (S "quoted", (q)), (S "escapedstate", (.str (es))), (S "nextchar", (.str []))], [], [(.inst 722 1), (shD [] [] ([r0]) (D.tt) ([r1, r3]) ([r2]) ([r1]) .none (ln) (tok)), (.inst 587 3), (sioD (b) (p)), .deq, .deq, (.tup [(.str [97]), (.str [99])])]⟩))))))) : T Fl)) (qD q) p) (by kernel_rfl!) ?_)
  exact ok_need rfl (ok_need m1 (ok_need m2 (ok_need m3 (ok_need rfl (ok_need s0n (ok_need rfl hE))))))
theorem tail_ok (hx : x.Ok) (hN : x.env.scope.names = c6.N) (ha : x.a0.length = 6) (st : D) (hst : st = .none ∨ st = .str [32]) (tok : List Nat) (q : Bool) (es nc : List Nat) (p : Nat) (ex : List AO) (hex : ex = [] ∨ ex = [tup2]) :
    ExOk x (B6.drop 3) (brSt r0 r1 r2 r3 ln b st tok q es nc p ex) (retOf 6 fun d o => d = resD tok q ∧ o = shOs (shR r0 r1 r2 r3 st ln []) b p) := by
  have main : ExOk x (B6.drop 3) (rt1 r0 r1 r2 r3 st ln tok b p (qD q) es nc) (retOf 6 fun d o => d = resD tok q ∧ o = shOs (shR r0 r1 r2 r3 st ln []) b p) := by
    cases q with
    | true =>
      refine ExOk.tree (c := c6) hx hN (n := 40) (ok_path (ws := [false]) (t' := (fun (p : Int) => (.need (decide ((1 : Int) < (0 : Int)) = false) ( .ret (.ret (.str (tok))) ⟨[(S "self", (.obj 0)), (S "quoted", (D.tt)), (S "escapedstate", (.str (es))), (S "nextchar", (.str (nc))), (S "result", (.str (tok)))], [], [(.inst 722 1), (shD [] [] ([r0]) (D.tt) ([r1, r3]) ([r2]) ([r1]) (st) (ln) []), (.inst 587 3), (sioD (b) (p)), .deq, .deq]⟩) : T Fl)) p) (by kernel_rfl!) ?_)
      rcases hst with rfl | rfl
      · exact ok_need rfl ⟨[0, 1, 2, 3, 4, 5], by rfl, by rfl, rfl, by rfl⟩
      · exact ok_need rfl ⟨[0, 1, 2, 3, 4, 5], by rfl, by rfl, rfl, by rfl⟩
    | false =>
      by_cases ht : tok = []
      · have e : resD tok false = .none := if_pos ht
        rw [e]
        refine ExOk.tree (c := c6) hx hN (n := 40) (ok_path (ws := [true, false]) (t' := (fun (p : Int) => (.need (decide (tok = ([] : List Nat)) = true) ( .need (decide ((1 : Int) < (0 : Int)) = false) ( .ret (.ret .none) ⟨[(S "self", (.obj 0)), (S "quoted", (D.ff)), (S "escapedstate", (.str (es))), (S "nextchar", (.str (nc))), (S "result", .none)], [], [(.inst 722 1), (shD [] [] ([r0]) (D.tt) ([r1, r3]) ([r2]) ([r1]) (st) (ln) []), (.inst 587 3), (sioD (b) (p)), .deq, .deq]⟩)) : T Fl)) p) (by kernel_rfl!) ?_)
        rcases hst with rfl | rfl
        · exact ok_need (decide_eq_true ht) (ok_need rfl ⟨[0, 1, 2, 3, 4, 5], by rfl, by rfl, rfl, by rfl⟩)
        · exact ok_need (decide_eq_true ht) (ok_need rfl ⟨[0, 1, 2, 3, 4, 5], by rfl, by rfl, rfl, by rfl⟩)
      · have e : resD tok false = .str tok := if_neg ht
        rw [e]
        refine ExOk.tree (c := c6) hx hN (n := 40) (ok_path (ws := [false, false]) (t' := (fun (p : Int) => (.need (decide (tok = ([] : List Nat)) = false) ( .need (decide ((1 : Int) < (0 : Int)) = false) ( .ret (.ret (.str (tok))) ⟨[(S "self", (.obj 0)), (S "quoted", (D.ff)), (S "escapedstate", (.str (es))), (S "nextchar", (.str (nc))), (S "result", (.str (tok)))], [], [(.inst 722 1), (shD [] [] ([r0]) (D.tt) ([r1, r3]) ([r2]) ([r1]) (st) (ln) []), (.inst 587 3), (sioD (b) (p)), .deq, .deq]⟩)) : T Fl)) p) (by kernel_rfl!) ?_)
        rcases hst with rfl | rfl
        · exact ok_need (decide_eq_false ht) (ok_need rfl ⟨[0, 1, 2, 3, 4, 5], by rfl, by rfl, rfl, by rfl⟩)
        · exact ok_need (decide_eq_false ht) (ok_need rfl ⟨[0, 1, 2, 3, 4, 5], by rfl, by rfl, rfl, by rfl⟩)
  refine ExOk.cut (k := 6) (n := 4) hx [0, 1, 2, 3, 4, 5] ha ?_ ?_
  · rcases hst with rfl | rfl <;> rcases hex with rfl | rfl <;> cases q <;> rfl
  · have e : cutSt [0, 1, 2, 3, 4, 5] 4 (brSt r0 r1 r2 r3 ln b st tok q es nc p ex) = rt1 r0 r1 r2 r3 st ln tok b p (qD q) es nc := by
      rcases hst with rfl | rfl <;> rcases hex with rfl | rfl <;> cases q <;> rfl
    rw [e]
    exact main
end
theorem ok_yes {x : Fx} {σ : St} {A B : St → Prop} (h : A σ) : ok x (.ret Kb.yes σ) (fun b σ1 => if b.val = true then A σ1 else B σ1) := by
  show (if Kb.yes.val = true then A σ else B σ)
  rw [if_pos (show Kb.yes.val = true from rfl)]; exact h
theorem en_eq (r0 r1 r2 r3 : Nat) (st : D) (ln : Int) (tok b : List Nat) (p : Int) : execM c6 40 (B6.take 2) (entry F690.scope.names ([S "self"].zip [.obj 0]) (shOs (shR r0 r1 r2 r3 st ln tok) b p)) = .ret .next (rtSt r0 r1 r2 r3 st ln tok b p .ff [32]) := by kernel_rfl!
theorem rt_ok (w : World) (n : Nat) {r0 r1 r2 r3 : Nat} (ro : Ro r0 r1 r2 r3) (ln : Int) (b : List Nat) (p : Nat) (hb : b.length < 1000000) (hch : ∀ c ∈ b, c ≠ 10) (hp : p ≤ b.length) (tok : List Nat) (q eof : Bool) (rest : List Nat) (hG : lexR r0 r1 r2 r3 .sp [] false (b.drop p) = some (tok, q, eof, rest)) :
    CallOk w (n + 2) 690 [.obj 0] (shOs (shR r0 r1 r2 r3 (.str [32]) ln []) b p) fun d o => d = resD tok q ∧ o = shOs (shR r0 r1 r2 r3 (if eof = true then .none else .str [32]) ln []) b ((b.length - rest.length : Nat) : Int) := by
  refine enterC (oc := .type "function") (fd := F690) (body := B6.take 2 ++ ([W6] ++ B6.drop 3)) (names := [S "self"]) [] [] .nil (by kernel_rfl!) (by kernel_rfl!) (by kernel_rfl!) (by kernel_rfl!) (by kernel_rfl!) (fun s vals _ h => match vals, h with | [a], _ => .of_eq (by kernel_rfl!)) fun x hx => ?_
  have hN : x.env.scope.names = c6.N := by rw [hx.sc]; kernel_rfl!
  have ha : x.a0.length = 6 := hx.a0
  refine ExOk.app (ExOk.tree (c := c6) hx.ok hN (n := 40) (ok_eq (en_eq r0 r1 r2 r3 _ ln _ b p) ?_))
  refine ExOk.app ?_
  have eW : [W6] = [.While (wTest W6) (wBody W6) [] (wPos W6)] := by kernel_rfl!
  have eB : wBody W6 = (wBody W6).take 3 ++ (wBody W6).drop 3 := (List.take_append_drop 3 _).symm
  rw [eW]
  have fin : ∀ (st : D) (hst : st = .none ∨ st = .str [32]) (tok' : List Nat) (q' : Bool) (es nc : List Nat) (p' : Nat) (ex : List AO), (ex = [] ∨ ex = [tup2]) → tok' = tok → q' = q → st = (if eof = true then .none else .str [32]) → p' = b.length - rest.length →
      onNext .next (brSt r0 r1 r2 r3 ln b st tok' q' es nc p' ex) (fun σ' => ExOk x (B6.drop 3) σ' (retOf 6 fun d o => d = resD tok q ∧ o = shOs (shR r0 r1 r2 r3 (if eof = true then .none else .str [32]) ln []) b ((b.length - rest.length : Nat) : Int))) (retOf 6 fun d o => d = resD tok q ∧ o = shOs (shR r0 r1 r2 r3 (if eof = true then .none else .str [32]) ln []) b ((b.length - rest.length : Nat) : Int)) := by
    rintro st hst tok' q' es nc p' ex hex rfl rfl e1 rfl
    have := tail_ok (r0 := r0) (r1 := r1) (r2 := r2) (r3 := r3) (ln := ln) (b := b) hx.ok hN ha st hst tok' q' es nc (b.length - rest.length) ex hex
    rw [e1] at this ⊢
    exact this
  refine ExOk.while (c := c6) hx.ok hN ha (InS r0 r1 r2 r3 ln b (tok, q, eof, rest)) ?_ (n := b.length - p) ?_
  · rintro m σ ⟨st, tk, qb, p', es, rfl, hp', rfl, ht, hi, hL⟩
    refine ok_eq (t' := .ret .yes (rtSt r0 r1 r2 r3 (.str (stL r2 st)) ln tk b p' (qD qb) es)) (by kernel_rfl!) ?_
    refine ok_yes ?_
    rw [eB]
    refine ExOk.app ?_
    by_cases hlt : p' < b.length
    · have hc : b.drop p' = b.getD p' 0 :: b.drop (p' + 1) := by
        rw [List.drop_eq_getElem_cons hlt]
        congr 1
        simp [List.getD, hlt]
      have hcm : b.getD p' 0 ∈ b := by
        have : b.getD p' 0 = b[p'] := by simp [List.getD, hlt]
        rw [this]; exact List.getElem_mem hlt
      rw [hc] at hL
      refine seg_char (n := n) (stL r2 st) tk p' (qD qb) es hlt (hch _ hcm) hx.ok hx.n hN hb ?_
      show ExOk x _ _ _
      cases st with
      | sp =>
        obtain ⟨rfl, rfl⟩ := hi
        exact turn_sp (n := n) ro hx.ok hx.n hN es p' _ hlt hL
      | inq a => exact turn_inq (n := n) ro hx.ok hx.n hN hb a tk qb es p' _ hlt hi ht hL
      | esc e =>
        obtain ⟨rfl, he⟩ := hi
        exact turn_esc (n := n) ro hx.ok hx.n hN hb e tk qb p' _ hlt he ht hL
      | wd =>
        refine turn_wd (n := n) ro hx.ok hx.n hN hb tk qb es p' _ hlt hi ht hL fun e => ?_
        obtain ⟨e1, e2⟩ := Prod.mk.inj e
        obtain ⟨e2, e3⟩ := Prod.mk.inj e2
        obtain ⟨e3, e4⟩ := Prod.mk.inj e3
        refine fin (.str [32]) (.inr rfl) tk qb es _ (p' + 1) [tup2] (.inr rfl) e1.symm e2.symm (by rw [e3]; rfl) ?_
        rw [e4, List.length_drop]; omega
    · have hpe : p' = b.length := by omega
      have hc : b.drop p' = [] := List.drop_of_length_le (by omega)
      rw [hc] at hL
      refine seg_eof (n := n) (stL r2 st) tk p' (qD qb) es hpe hx.ok hx.n hN hb ?_
      show ExOk x _ _ _
      cases st with
      | sp =>
        obtain ⟨rfl, rfl⟩ := hi
        have e : (([] : List Nat), false, true, ([] : List Nat)) = (tok, q, eof, rest) := Option.some.inj hL
        obtain ⟨e1, e2⟩ := Prod.mk.inj e
        obtain ⟨e2, e3⟩ := Prod.mk.inj e2
        obtain ⟨e3, e4⟩ := Prod.mk.inj e3
        refine eof_sp ro hx.ok hN es p' (fin .none (.inl rfl) [] false es [] p' [] (.inl rfl) e1 e2 (by rw [← e3]; rfl) ?_)
        rw [← e4]; simpa using hpe
      | inq a => cases hL
      | esc e => cases hL
      | wd =>
        have e : (tk, qb, true, ([] : List Nat)) = (tok, q, eof, rest) := Option.some.inj hL
        obtain ⟨e1, e2⟩ := Prod.mk.inj e
        obtain ⟨e2, e3⟩ := Prod.mk.inj e2
        obtain ⟨e3, e4⟩ := Prod.mk.inj e3
        refine eof_wd ro hx.ok hN tk qb es p' (fin .none (.inl rfl) tk qb es [] p' [tup2] (.inr rfl) e1 e2 (by rw [← e3]; rfl) ?_)
        rw [← e4]; simpa using hpe
  · exact ⟨[0, 1, 2, 3, 4, 5], 3, by rfl, .sp, [], false, p, [32], by rfl, hp, rfl, by simp, ⟨rfl, rfl⟩, hG⟩
end
end Mine
namespace Mine
noncomputable section
noncomputable def spGt (O0 : List AO) (d : D) (O1 : List AO) : Specs := fun a args os => match Nat.beq a 690, args with
  | true, [.obj 0] => .need (os = O0) (.done d O1)
  | _, _ => .bad
noncomputable abbrev S5g : Stmt := clsSt 19 5
noncomputable abbrev B5g : List Stmt := bodyOf S5g
noncomputable abbrev W5g : Stmt := st1 B5g 3
noncomputable abbrev c5g (O0 : List AO) (d : D) (O1 : List AO) : Cfg := cfg (spGt O0 d O1) S5g
noncomputable def gtSt (d : D) (os : List AO) : St := ⟨[(S "self", .obj 0), (S "raw", d)], [], os⟩
section
variable {r0 r1 r2 r3 : Nat} {ln : Int} {b : List Nat} {x : Fx} {n : Nat}
theorem seg_none (p : Nat) (q : D) (es : List Nat) (hp : p = b.length) (hx : x.Ok) (hxn : x.n = n + 2) (hN : x.env.scope.names = c6.N) (hb : b.length < 1000000) {P : Fl → St → Prop}
    (h : P .next (rt1 r0 r1 r2 r3 .none ln [] b p q es [])) : ExOk x ((wBody W6).take 3) (rtSt r0 r1 r2 r3 .none ln [] b p q es) P := by
  refine ExOk.tree (c := c6) hx hN (n := 40) (ok_path (ws := [false, false, false, false]) (t' := (fun (st : D) (tok : List Nat) (p : Int) => (.ext (pcX 571 15 571 37 571 15 571 19) ⟨[(S "self", (.obj 0)), (S "quoted", (q)), (S "escapedstate", (.str (es)))], [], [(.inst 722 1), (shD [] [] ([r0]) (D.tt) ([r1, r3]) ([r2]) ([r1]) (st) (ln) (tok)), (.inst 587 3), (sioD (b) (p)), .deq, .deq]⟩ (.str []) ⟨[(S "self", (.obj 0)), (S "quoted", (q)), (S "escapedstate", (.str (es)))], [], [(.inst 722 1), (shD [] [] ([r0]) (D.tt) ([r1, r3]) ([r2]) ([r1]) (st) (ln) (tok)), (.inst 587 3), (sioD (b) (p)), .deq, .deq]⟩ ( .need (([] : List Nat).length ≤ sizeLine) ( .need ((!decide (([] : List Nat) = [])) = false) ( .need ([(10 : Nat)] = [(10 : Nat)] ∧ (0 : Int) ≤ p ∧ p ≤ (↑b.length : Int) ∧ b.length < (1000000 : Nat)) ( .need (decide (p < (↑b.length : Int)) = false) ( .call 533 [(.obj 0), (.int ((1 : Int)))] [(.inst 587 1), (sioD (b) (p))] (.str []) [(.inst 587 1), (sioD (b) (p))] ( .need (decide (([] : List Nat) = ([10] : List Nat)) = false) ( .need (decide ((3 : Int) ≤ (0 : Int)) = false) ( .ret .next ⟨[(S "self", (.obj 0)), (S "quoted", (q)), (S "escapedstate", (.str (es))), (S "nextchar", (.str []))], [], [(.inst 722 1), (shD [] [] ([r0]) (D.tt) ([r1, r3]) ([r2]) ([r1]) (st) (ln) (tok)), (.inst 587 3), (sioD (b) (p)), .deq, .deq]⟩)))))))) : T Fl)) .none [] p) (by kernel_rfl!) ?_)
  dsimp only
  have cl := sread_ok x.w n b p (by omega) hb
  have e1 : rdC b p = [] := by
    unfold rdC
    rw [List.drop_of_length_le (by omega)]; rfl
  have e2 : rdP b p = p := if_neg (by omega)
  rw [e1, e2] at cl
  refine ⟨pc_ev _ _ _ _ _ _ _ _ _ _ _ _ hx hxn hN (by kernel_rfl!) _ _ _ _ _ _ _ _ _ (by rfl) (by rfl) (by rfl) (by rfl) (by rfl) (.inl rfl) rfl (by rfl), ok_need (by decide) (ok_need rfl (ok_need ⟨rfl, by omega, by omega, hb⟩ (ok_need (decide_eq_false (by omega)) ⟨⟨n + 1, hxn, cl⟩, ok_need rfl (ok_need rfl h)⟩)))⟩
end
theorem rt_none (w : World) (n : Nat) {r0 r1 r2 r3 : Nat} (ln : Int) (b : List Nat) (hb : b.length < 1000000) :
    CallOk w (n + 2) 690 [.obj 0] (shOs (shR r0 r1 r2 r3 .none ln []) b (b.length : Nat)) fun d o => d = .none ∧ o = shOs (shR r0 r1 r2 r3 .none ln []) b ((b.length : Nat) : Int) := by
  refine enterC (oc := .type "function") (fd := F690) (body := B6.take 2 ++ ([W6] ++ B6.drop 3)) (names := [S "self"]) [] [] .nil (by kernel_rfl!) (by kernel_rfl!) (by kernel_rfl!) (by kernel_rfl!) (by kernel_rfl!) (fun s vals _ h => match vals, h with | [a], _ => .of_eq (by kernel_rfl!)) fun x hx => ?_
  have hN : x.env.scope.names = c6.N := by rw [hx.sc]; kernel_rfl!
  have ha : x.a0.length = 6 := hx.a0
  refine ExOk.app (ExOk.tree (c := c6) hx.ok hN (n := 40) (ok_eq (en_eq r0 r1 r2 r3 _ ln _ b _) ?_))
  refine ExOk.app ?_
  have eW : [W6] = [.While (wTest W6) (wBody W6) [] (wPos W6)] := by kernel_rfl!
  have eB : wBody W6 = (wBody W6).take 3 ++ (wBody W6).drop 3 := (List.take_append_drop 3 _).symm
  rw [eW]
  refine ExOk.while (c := c6) hx.ok hN ha (fun _ σ => σ = rtSt r0 r1 r2 r3 .none ln [] b ((b.length : Nat) : Int) .ff [32]) ?_ (n := 0) ?_
  · rintro m σ rfl
    refine ok_eq (t' := .ret .yes (rtSt r0 r1 r2 r3 .none ln [] b ((b.length : Nat) : Int) .ff [32])) (by kernel_rfl!) ?_
    refine ok_yes ?_
    rw [eB]
    refine ExOk.app ?_
    refine seg_none (n := n) b.length .ff [32] rfl hx.ok hx.n hN hb ?_
    show ExOk x _ _ _
    refine ExOk.tree (c := c6) hx.ok hN (n := 40) (ok_eq (t' := .ret .brk (brSt r0 r1 r2 r3 ln b .none [] false [32] [] b.length [])) (by kernel_rfl!) ?_)
    have := tail_ok (r0 := r0) (r1 := r1) (r2 := r2) (r3 := r3) (ln := ln) (b := b) hx.ok hN ha .none (.inl rfl) [] false [32] [] b.length [] (.inl rfl)
    exact this
  · exact ⟨[0, 1, 2, 3, 4, 5], 3, by rfl, by rfl⟩
theorem ok_nay {x : Fx} {σ : St} {A B : St → Prop} (h : B σ) : ok x (.ret Kb.no σ) (fun b σ1 => if b.val = true then A σ1 else B σ1) := by
  show (if Kb.no.val = true then A σ else B σ)
  rw [if_neg (show ¬ Kb.no.val = true from fun h => by cases h)]; exact h
/-- what get_token does with read_token's answer -/
noncomputable def WOk (d : D) : Prop := d = .none ∨ ∃ u, d = .str u
theorem gt_core (w : World) (n : Nat) {r0 r1 r2 r3 : Nat} (ln : Int) (b : List Nat) (p p' : Int) {st st' d : D} (h1 : WOk st) (h2 : WOk st') (h3 : WOk d)
    (call : CallOk w (n + 2) 690 [.obj 0] (shOs (shR r0 r1 r2 r3 st ln []) b p) fun d' o => d' = d ∧ o = shOs (shR r0 r1 r2 r3 st' ln []) b p') :
    CallOk w (n + 3) 683 [.obj 0] (shOs (shR r0 r1 r2 r3 st ln []) b p) fun d' o => d' = d ∧ o = shOs (shR r0 r1 r2 r3 st' ln []) b p' := by
  refine enterC (oc := .type "function") (fd := F683) (body := B5g.take 3 ++ ([W5g] ++ B5g.drop 4)) (names := [S "self"]) [] [] .nil (by kernel_rfl!) (by kernel_rfl!) (by kernel_rfl!) (by kernel_rfl!) (by kernel_rfl!) (fun s vals _ h => match vals, h with | [a], _ => .of_eq (by kernel_rfl!)) fun x hx => ?_
  have hN : x.env.scope.names = (c5g (shOs (shR r0 r1 r2 r3 st ln []) b p) d (shOs (shR r0 r1 r2 r3 st' ln []) b p')).N := by rw [hx.sc]; kernel_rfl!
  have hN' : x.env.scope.names = (cfg noSp S5g).N := hN
  have ha : x.a0.length = 6 := hx.a0
  have call' : ∃ n', x.n = n' + 1 ∧ CallOk x.w n' 690 [.obj 0] (shOs (shR r0 r1 r2 r3 st ln []) b p) fun d' o => d' = d ∧ o = shOs (shR r0 r1 r2 r3 st' ln []) b p' := ⟨n + 2, hx.n, by rw [hx.w]; exact call⟩
  refine ExOk.app (ExOk.tree (c := c5g (shOs (shR r0 r1 r2 r3 st ln []) b p) d (shOs (shR r0 r1 r2 r3 st' ln []) b p')) hx.ok hN (n := 20) (ok_eq (t' := .need (shOs (shR r0 r1 r2 r3 st ln []) b p = shOs (shR r0 r1 r2 r3 st ln []) b p) (.call 690 [.obj 0] (shOs (shR r0 r1 r2 r3 st ln []) b p) d (shOs (shR r0 r1 r2 r3 st' ln []) b p') (.ret .next (gtSt d (shOs (shR r0 r1 r2 r3 st' ln []) b p'))))) ?_ ?_))
  · rcases h1 with rfl | ⟨u1, rfl⟩ <;> rcases h2 with rfl | ⟨u2, rfl⟩ <;> rcases h3 with rfl | ⟨u3, rfl⟩ <;> kernel_rfl!
  refine ok_need rfl ⟨call', ?_⟩
  show ExOk x _ _ _
  refine ExOk.app ?_
  have eW : [W5g] = [.While (wTest W5g) (wBody W5g) [] (wPos W5g)] := by kernel_rfl!
  rw [eW]
  refine ExOk.while (c := cfg noSp S5g) hx.ok hN' ha (fun _ σ => σ = gtSt d (shOs (shR r0 r1 r2 r3 st' ln []) b p')) ?_ (n := 0) ?_
  · rintro m σ rfl
    rcases h3 with rfl | ⟨u3, rfl⟩
    · refine ok_eq (t' := .ret .yes (gtSt .none (shOs (shR r0 r1 r2 r3 st' ln []) b p'))) ?_ ?_
      · rcases h2 with rfl | ⟨u2, rfl⟩ <;> kernel_rfl!
      refine ok_yes ?_
      refine ExOk.tree (c := cfg noSp S5g) hx.ok hN' (n := 40) (ok_eq (t' := .ret (.ret .none) (gtSt .none (shOs (shR r0 r1 r2 r3 st' ln []) b p'))) ?_ ?_)
      · rcases h2 with rfl | ⟨u2, rfl⟩ <;> kernel_rfl!
      rcases h2 with rfl | ⟨u2, rfl⟩
      · exact ⟨[0, 1, 2, 3, 4, 5], by rfl, by rfl, rfl, by rfl⟩
      · exact ⟨[0, 1, 2, 3, 4, 5], by rfl, by rfl, rfl, by rfl⟩
    · refine ok_eq (t' := .ret .no (gtSt (.str u3) (shOs (shR r0 r1 r2 r3 st' ln []) b p'))) ?_ ?_
      · rcases h2 with rfl | ⟨u2, rfl⟩ <;> kernel_rfl!
      refine ok_nay ?_
      show ExOk x _ _ _
      refine ExOk.tree (c := cfg noSp S5g) hx.ok hN' (n := 40) (ok_eq (t' := .br false .bad (.ret (.ret (.str u3)) (gtSt (.str u3) (shOs (shR r0 r1 r2 r3 st' ln []) b p')))) ?_ ?_)
      · rcases h2 with rfl | ⟨u2, rfl⟩ <;> kernel_rfl!
      refine ok_f rfl ?_
      rcases h2 with rfl | ⟨u2, rfl⟩
      · exact ⟨[0, 1, 2, 3, 4, 5], by rfl, by rfl, rfl, by rfl⟩
      · exact ⟨[0, 1, 2, 3, 4, 5], by rfl, by rfl, rfl, by rfl⟩
  · refine ⟨[0, 1, 2, 3, 4, 5], 2, ?_, ?_⟩
    · rcases h2 with rfl | ⟨u2, rfl⟩ <;> rcases h3 with rfl | ⟨u3, rfl⟩ <;> rfl
    · rcases h2 with rfl | ⟨u2, rfl⟩ <;> rcases h3 with rfl | ⟨u3, rfl⟩ <;> rfl
theorem res_ok (tok : List Nat) (q : Bool) : WOk (resD tok q) := by
  cases q
  · by_cases h : tok = []
    · exact .inl (if_pos h)
    · exact .inr ⟨tok, if_neg h⟩
  · exact .inr ⟨tok, rfl⟩
theorem gt_ok (w : World) (n : Nat) {r0 r1 r2 r3 : Nat} (ro : Ro r0 r1 r2 r3) (ln : Int) (b : List Nat) (p : Nat) (hb : b.length < 1000000) (hch : ∀ c ∈ b, c ≠ 10) (hp : p ≤ b.length) (tok : List Nat) (q eof : Bool) (rest : List Nat) (hG : lexR r0 r1 r2 r3 .sp [] false (b.drop p) = some (tok, q, eof, rest)) :
    CallOk w (n + 3) 683 [.obj 0] (shOs (shR r0 r1 r2 r3 (.str [32]) ln []) b p) fun d o => d = resD tok q ∧ o = shOs (shR r0 r1 r2 r3 (if eof = true then .none else .str [32]) ln []) b ((b.length - rest.length : Nat) : Int) :=
  gt_core w n ln b _ _ (.inr ⟨_, rfl⟩) (by split; exact .inl rfl; exact .inr ⟨_, rfl⟩) (res_ok tok q) (rt_ok w n ro ln b p hb hch hp tok q eof rest hG)
theorem gt_none (w : World) (n : Nat) {r0 r1 r2 r3 : Nat} (ln : Int) (b : List Nat) (hb : b.length < 1000000) :
    CallOk w (n + 3) 683 [.obj 0] (shOs (shR r0 r1 r2 r3 .none ln []) b (b.length : Nat)) fun d o => d = .none ∧ o = shOs (shR r0 r1 r2 r3 .none ln []) b ((b.length : Nat) : Int) :=
  gt_core w n ln b _ _ (.inl rfl) (.inl rfl) (.inl rfl) (rt_none w n ln b hb)
end
end Mine
namespace Mine
noncomputable section
noncomputable def spHe (O0 : List AO) (d : D) (O1 : List AO) : Specs := fun a args os => match Nat.beq a 775, Nat.beq a 722, Nat.beq a 683, Nat.beq a 787, args with
  | true, _, _, _, [.int z] => (match os with | [] => .need ((ap z.natAbs).length ≤ 1000) (.done (.bytes (ap z.natAbs)) []) | _ => .bad)
  | _, true, _, _, [.str u, .none, .tt] => (match os with | [] => (.done (.obj 0) (shOs sh0 u 0)) | _ => .bad)
  | _, _, true, _, [.obj 0] => .need (os = O0) (.done d O1)
  | _, _, _, true, [.str w] => (match os with | [] => .need (∀ c ∈ w, 65 ≤ c ∧ c ≤ 80) (.done (.int (rd w 0)) []) | _ => .bad)
  | _, _, _, _, _ => .bad
noncomputable abbrev B35 : List Stmt := bodyOf (topSt 35)
noncomputable abbrev g35 : Cfg := cfg (spHe [] .none []) (topSt 35)
noncomputable abbrev c35 (O0 : List AO) (d : D) (O1 : List AO) : Cfg := cfg (spHe O0 d O1) (topSt 35)
noncomputable abbrev C35 : Expr := retE (st1 B35 10)
noncomputable abbrev k35 : Cfg := ⟨spHe [] .none [], noCp, relabN g35.N (cScope C35).names⟩
noncomputable def he0 (z : Int) (r0 r1 r2 r3 : Nat) (st : D) (b : List Nat) (p : Int) : St := ⟨[(S "number", .int z), (S "roles", .str [r0, r1, r2, r3]), (S "lexer", .obj 0)], [], shOs (shR r0 r1 r2 r3 st 1 []) b p⟩
noncomputable def heSt (z : Int) (r0 r1 r2 r3 : Nat) (st : D) (b : List Nat) (p : Int) (o : AO) (d : D) : St := ⟨[(S "number", .int z), (S "roles", .str [r0, r1, r2, r3]), (S "lexer", .obj 0), (S "token", d), (S "words", .obj 6)], [], shOs (shR r0 r1 r2 r3 st 1 []) b p ++ [o]⟩
noncomputable def heIn (r0 r1 r2 r3 : Nat) (st : D) (b : List Nat) (p : Int) (os : List AO) : St := ⟨[], [], shOs (shR r0 r1 r2 r3 st 1 []) b p ++ os⟩
inductive Heard (r0 r1 r2 r3 : Nat) : List Nat → List (List Nat) → Prop
  | stop {rest} : lexR r0 r1 r2 r3 .sp [] false rest = some ([], false, true, []) → Heard r0 r1 r2 r3 rest []
  | last {rest w q} : lexR r0 r1 r2 r3 .sp [] false rest = some (w, q, true, []) → resD w q = .str w → Heard r0 r1 r2 r3 rest [w]
  | more {rest w q rest' ws} : lexR r0 r1 r2 r3 .sp [] false rest = some (w, q, false, rest') → resD w q = .str w → rest' <:+ rest → Heard r0 r1 r2 r3 rest' ws → Heard r0 r1 r2 r3 rest (w :: ws)
noncomputable abbrev GtC (w : World) (n r0 r1 r2 r3 : Nat) (b : List Nat) (st : D) (p : Int) (st' : D) (p' : Int) (d : D) : Prop := CallOk w (n + 3) 683 [.obj 0] (shOs (shR r0 r1 r2 r3 st 1 []) b p) fun d' o => d' = d ∧ o = shOs (shR r0 r1 r2 r3 st' 1 []) b p'
inductive Left (w : World) (n r0 r1 r2 r3 : Nat) (b : List Nat) : D → Int → D → List (List Nat) → Prop
  | nil {st p} : WOk st → Left w n r0 r1 r2 r3 b st p .none []
  | cons {st p st' p' d' u ws} : WOk st → WOk st' → WOk d' → GtC w n r0 r1 r2 r3 b st p st' p' d' → Left w n r0 r1 r2 r3 b st' p' d' ws → Left w n r0 r1 r2 r3 b st p (.str u) (u :: ws)
theorem suf_at {rest b : List Nat} (h : rest <:+ b) : b.drop (b.length - rest.length) = rest := by
  obtain ⟨t, rfl⟩ := h
  simp
theorem heard_left (w : World) (n : Nat) {r0 r1 r2 r3 : Nat} (ro : Ro r0 r1 r2 r3) (b : List Nat) (hb : b.length < 1000000) (hch : ∀ c ∈ b, c ≠ 10) {rest : List Nat} {ws : List (List Nat)} (hH : Heard r0 r1 r2 r3 rest ws) :
    rest <:+ b → ∃ st' p' d', WOk st' ∧ WOk d' ∧ GtC w n r0 r1 r2 r3 b (.str [32]) ((b.length - rest.length : Nat) : Int) st' p' d' ∧ Left w n r0 r1 r2 r3 b st' p' d' ws := by
  induction hH with
  | @stop rest h =>
    intro hs
    refine ⟨.none, _, .none, .inl rfl, .inl rfl, gt_ok w n ro 1 b (b.length - rest.length) hb hch (by omega) [] false true [] (by rw [suf_at hs]; exact h), .nil (.inl rfl)⟩
  | @last rest u q h hr =>
    intro hs
    have g := gt_ok w n ro 1 b (b.length - rest.length) hb hch (by omega) u q true [] (by rw [suf_at hs]; exact h)
    rw [hr] at g
    exact ⟨.none, ((b.length : Nat) : Int), .str u, .inl rfl, .inr ⟨_, rfl⟩, g, .cons (.inl rfl) (.inl rfl) (.inl rfl) (gt_none w n 1 b hb) (.nil (.inl rfl))⟩
  | @more rest u q rest' ws h hr hss _ ih =>
    intro hs
    obtain ⟨st', p', d', h1, h2, h3, h4⟩ := ih (hss.trans hs)
    have g := gt_ok w n ro 1 b (b.length - rest.length) hb hch (by omega) u q false rest' (by rw [suf_at hs]; exact h)
    rw [hr] at g
    exact ⟨.str [32], _, .str u, .inr ⟨_, rfl⟩, .inr ⟨_, rfl⟩, g, .cons (.inr ⟨_, rfl⟩) h1 h2 h3 h4⟩
theorem item_strs {j : Nat} {os : List AO} {xs : List (List Nat)} {i : Nat} {d : D} (ho : os[j]? = some (.strs xs)) (h : itemOf (.list j) os i = some d) : ∃ z, xs[i]? = some z ∧ d = .str z := by
  have h : (match os[j]? with | some (.ints xs) => xs[i]?.map D.int | some (.strs xs) => xs[i]?.map D.str | _ => none) = some d := h
  rw [ho] at h
  obtain ⟨z, h1, h2⟩ := Option.map_eq_some_iff.mp h
  exact ⟨z, h1, h2.symm⟩
theorem item_strs_none {j : Nat} {os : List AO} {xs : List (List Nat)} {i : Nat} (ho : os[j]? = some (.strs xs)) (h : itemOf (.list j) os i = none) : xs.length ≤ i := by
  have h : (match os[j]? with | some (.ints xs) => xs[i]?.map D.int | some (.strs xs) => xs[i]?.map D.str | _ => none) = none := h
  rw [ho] at h
  have h : xs[i]?.map D.str = none := h
  rw [Option.map_eq_none_iff] at h
  exact List.getElem?_eq_none_iff.mp h
section
variable {z : Int} {r0 r1 r2 r3 : Nat} {b : List Nat} {x : Fx} {n : Nat}
theorem he_first {st st' d : D} {p p' : Int} (h1 : WOk st) (h2 : WOk st') (h3 : WOk d) (hx : x.Ok) (hn : x.n = n + 4) (hN : x.env.scope.names = g35.N) (call : GtC x.w n r0 r1 r2 r3 b st p st' p' d) {P : Fl → St → Prop}
    (h : P .next ⟨[(S "number", .int z), (S "roles", .str [r0, r1, r2, r3]), (S "lexer", .obj 0), (S "token", d), (S "words", .obj 6)], [], shOs (shR r0 r1 r2 r3 st' 1 []) b p' ++ [.ints [], .tup [.obj 6, d]]⟩) :
    ExOk x ((B35.drop 8).take 1) (he0 z r0 r1 r2 r3 st b p) P := by
  refine ExOk.tree (c := c35 (shOs (shR r0 r1 r2 r3 st 1 []) b p) d (shOs (shR r0 r1 r2 r3 st' 1 []) b p')) hx hN (n := 60) (ok_eq (t' := .need (([] : List Nat).length ≤ sizeLine) (.need (shOs (shR r0 r1 r2 r3 st 1 []) b p = shOs (shR r0 r1 r2 r3 st 1 []) b p) (.call 683 [.obj 0] (shOs (shR r0 r1 r2 r3 st 1 []) b p) d (shOs (shR r0 r1 r2 r3 st' 1 []) b p') (.need ([D.obj 6, d].length ≤ sizeLine) (.ret .next ⟨[(S "number", .int z), (S "roles", .str [r0, r1, r2, r3]), (S "lexer", .obj 0), (S "token", d), (S "words", .obj 6)], [], shOs (shR r0 r1 r2 r3 st' 1 []) b p' ++ [.ints [], .tup [.obj 6, d]]⟩))))) ?_ ?_)
  · rcases h1 with rfl | ⟨u1, rfl⟩ <;> rcases h2 with rfl | ⟨u2, rfl⟩ <;> rcases h3 with rfl | ⟨u3, rfl⟩ <;> kernel_rfl!
  · exact ok_need s0n (ok_need rfl ⟨⟨n + 3, hn, call⟩, ok_need (show 2 ≤ sizeLine by decide) h⟩)
theorem he_turn {st st' d : D} {p p' : Int} (h1 : WOk st) (h2 : WOk st') (h3 : WOk d) (hx : x.Ok) (hn : x.n = n + 4) (hN : x.env.scope.names = g35.N) (u : List Nat) (done : List (List Nat)) (hd : done.length ≤ sizeLine) (call : GtC x.w n r0 r1 r2 r3 b st p st' p' d) {P : Fl → St → Prop}
    (h : P .next (heSt z r0 r1 r2 r3 st' b p' (accS (done ++ [u])) d)) :
    ExOk x (wBody (st1 B35 9)) (heSt z r0 r1 r2 r3 st b p (accS done) (.str u)) P := by
  rw [accS_snoc] at h
  cases done with
  | nil =>
    refine ExOk.tree (c := c35 (shOs (shR r0 r1 r2 r3 st 1 []) b p) d (shOs (shR r0 r1 r2 r3 st' 1 []) b p')) hx hN (n := 60) (ok_eq (t' := .need (shOs (shR r0 r1 r2 r3 st 1 []) b p = shOs (shR r0 r1 r2 r3 st 1 []) b p) (.call 683 [.obj 0] (shOs (shR r0 r1 r2 r3 st 1 []) b p) d (shOs (shR r0 r1 r2 r3 st' 1 []) b p') (.ret .next (heSt z r0 r1 r2 r3 st' b p' (.strs [u]) d)))) ?_ ?_)
    · rcases h1 with rfl | ⟨u1, rfl⟩ <;> rcases h2 with rfl | ⟨u2, rfl⟩ <;> rcases h3 with rfl | ⟨u3, rfl⟩ <;> kernel_rfl!
    · exact ok_need rfl ⟨⟨n + 3, hn, call⟩, h⟩
  | cons y l =>
    refine ExOk.tree (c := c35 (shOs (shR r0 r1 r2 r3 st 1 []) b p) d (shOs (shR r0 r1 r2 r3 st' 1 []) b p')) hx hN (n := 60) (ok_eq (t' := .need ((y :: l).length ≤ sizeLine) (.need (shOs (shR r0 r1 r2 r3 st 1 []) b p = shOs (shR r0 r1 r2 r3 st 1 []) b p) (.call 683 [.obj 0] (shOs (shR r0 r1 r2 r3 st 1 []) b p) d (shOs (shR r0 r1 r2 r3 st' 1 []) b p') (.ret .next (heSt z r0 r1 r2 r3 st' b p' (.strs (y :: l ++ [u])) d))))) ?_ ?_)
    · rcases h1 with rfl | ⟨u1, rfl⟩ <;> rcases h2 with rfl | ⟨u2, rfl⟩ <;> rcases h3 with rfl | ⟨u3, rfl⟩ <;> kernel_rfl!
    · exact ok_need hd (ok_need rfl ⟨⟨n + 3, hn, call⟩, h⟩)
/-- the words are read -/
theorem he_read {st : D} {p : Int} (h1 : WOk st) (hx : x.Ok) (hn : x.n = n + 1) (hN : x.env.scope.names = g35.N) (ws : List (List Nat)) (hl : ws.length ≤ 1000) (hw : ∀ w ∈ ws, ∀ c ∈ w, 65 ≤ c ∧ c ≤ 80) {P : D → St → Prop}
    (h : P (.obj 7) ⟨(heSt z r0 r1 r2 r3 st b p (accS ws) .none).loc, [], shOs (shR r0 r1 r2 r3 st 1 []) b p ++ [accS ws, .ints (ws.map fun u => rd u 0)]⟩) : EvOk x C35 (heSt z r0 r1 r2 r3 st b p (accS ws) .none) P := by
  have hsz : 1000000 * 4 ≤ sizeLine := by decide
  have e : C35 = .ListComp (cElt C35) [⟨.Name (S "word") (cTp C35), cIter C35, cIfs C35, 0⟩] (cScope C35) (cPos C35) := by kernel_rfl!
  rw [e]
  refine EvOk.comp (c := g35) hx hN k35 7 ws.length (.list 6) (fun i σ => i ≤ ws.length ∧ σ = heIn r0 r1 r2 r3 st b p [accS ws, .it (.list 6) i, .ints ((ws.take i).map fun u => rd u 0)]) (by intro _; rfl) (by kernel_rfl!) (by kernel_rfl!) (by kernel_rfl!) ?_ ?_ ?_
  · refine ok_eq (t' := .ret (.obj 6) (heSt z r0 r1 r2 r3 st b p (accS ws) .none)) ?_ ?_
    · rcases h1 with rfl | ⟨u1, rfl⟩ <;> cases ws <;> kernel_rfl!
    show ok x (iterM (.obj 6) (heSt z r0 r1 r2 r3 st b p (accS ws) .none)) _
    refine ok_eq (t' := .ret (.obj 7) ⟨(heSt z r0 r1 r2 r3 st b p (accS ws) .none).loc, [], shOs (shR r0 r1 r2 r3 st 1 []) b p ++ [accS ws, .it (.list 6) 0]⟩) (by cases ws <;> rfl) ?_
    refine ⟨rfl, rfl, rfl, by rfl, rfl, rfl, ⟨0, rfl⟩, ⟨by omega, by rfl⟩, ?_⟩
    rintro i σ' ⟨hi, rfl⟩ hq
    obtain rfl : i = ws.length := by
      cases ws with
      | nil => simp at hi; simpa using hi
      | cons y l => have := item_strs_none (xs := y :: l) rfl hq; omega
    rw [List.take_length]
    refine ⟨[0, 1, 2, 3, 4, 5, 6, 8], 0, ?_, by rfl, by rfl, ?_⟩
    · rcases h1 with rfl | ⟨u1, rfl⟩ <;> cases ws <;> rfl
    · have : subO (heIn r0 r1 r2 r3 st b p [accS ws, .it (.list 6) ws.length, .ints (ws.map fun u => rd u 0)]).objs [0, 1, 2, 3, 4, 5, 6, 8] = shOs (shR r0 r1 r2 r3 st 1 []) b p ++ [accS ws, .ints (ws.map fun u => rd u 0)] := by
        rcases h1 with rfl | ⟨u1, rfl⟩ <;> cases ws <;> rfl
      rw [this]
      exact h
  · rintro i σ ⟨hi, rfl⟩; exact hi
  · rintro x' hx' i σ ⟨hi, rfl⟩
    refine ⟨rfl, by cases ws <;> rfl, fun d hd => ?_⟩
    cases ws with
    | nil => cases hd
    | cons y l =>
      obtain ⟨u, hu, rfl⟩ := item_strs (xs := y :: l) rfl hd
      have hlt := (List.getElem?_eq_some_iff.mp hu).1
      have huw := hw u (List.mem_of_getElem? hu)
      have call : ∃ n', x'.n = n' + 1 ∧ CallOk x'.w n' 787 [.str u] [] fun d' o => d' = .int (rd u 0) ∧ o = [] := ⟨n, by rw [hx'.n, hn], rd_ok _ _ _ huw⟩
      have hpl : (((y :: l).take i).map fun u => rd u 0).length ≤ sizeLine := by simp; simp at hl; omega
      have fin : ∀ {q}, q = S "word" → Cut 9 ⟨[(q, .str u)], [], shOs (shR r0 r1 r2 r3 st 1 []) b p ++ [.strs (y :: l), .it (.list 6) (i + 1), .ints (((y :: l).take i).map (fun u => rd u 0) ++ [rd u 0])]⟩ (fun σ => i + 1 ≤ (y :: l).length ∧ σ = heIn r0 r1 r2 r3 st b p [accS (y :: l), .it (.list 6) (i + 1), .ints (((y :: l).take (i + 1)).map fun u => rd u 0)]) := by
        rintro q rfl
        refine ⟨[0, 1, 2, 3, 4, 5, 6, 7, 8], 0, ?_, hlt, ?_⟩
        · rcases h1 with rfl | ⟨u1, rfl⟩ <;> rfl
        · rw [take_snoc hu, List.map_append, List.map_singleton]
          rcases h1 with rfl | ⟨u1, rfl⟩ <;> rfl
      generalize hpre : ((y :: l).take i).map (fun u => rd u 0) = pre at fin ⊢ hpl
      refine ok_eq (t' := .need (∀ c ∈ u, 65 ≤ c ∧ c ≤ 80) (.call 787 [.str u] [] (.int (rd u 0)) [] (.need (pre.length ≤ sizeLine) (.ret () ⟨[(S "word", .str u)], [], shOs (shR r0 r1 r2 r3 st 1 []) b p ++ [.strs (y :: l), .it (.list 6) (i + 1), .ints (pre ++ [rd u 0])]⟩)))) ?_ ?_
      · rcases h1 with rfl | ⟨u1, rfl⟩ <;> kernel_rfl!
      · exact ok_need huw ⟨call, ok_need hpl (fin rfl)⟩
end
theorem he_ok (w : World) (n : Nat) (z : Int) {r0 r1 r2 r3 : Nat} (ro : Ro r0 r1 r2 r3) (hz : (ap z.natAbs).length ≤ 1000) (ws : List (List Nat)) (hl : ws.length ≤ 1000) (hw : ∀ w ∈ ws, ∀ c ∈ w, 65 ≤ c ∧ c ≤ 80) (hH : Heard r0 r1 r2 r3 (((ap z.natAbs).map UInt8.toNat).drop 1) ws) :
    CallOk w (n + 5) 809 [.int z, .str [r0, r1, r2, r3]] [] fun d o => d = .obj 0 ∧ o = [.ints (ws.map fun u => rd u 0)] := by
  have hsz : 1000000 * 4 ≤ sizeLine := by decide
  refine enterC (oc := .type "function") (fd := F809) (body := B35.take 8 ++ ((B35.drop 8).take 1 ++ ([st1 B35 9] ++ [st1 B35 10]))) (names := [S "number", S "roles"]) [] [] .nil (by kernel_rfl!) (by kernel_rfl!) (by kernel_rfl!) (by kernel_rfl!) (by kernel_rfl!) (fun s vals _ h => match vals, h with | [a, b], _ => .of_eq (by kernel_rfl!)) fun x hx => ?_
  have hN : x.env.scope.names = g35.N := by rw [hx.sc]; kernel_rfl!
  have ha : x.a0.length = 0 := hx.a0
  have hlen : ((ap z.natAbs).map UInt8.toNat).length = (ap z.natAbs).length := by simp
  refine ExOk.app (ExOk.tree (c := g35) hx.ok hN (n := 60) (ok_eq (t' := .need ((ap z.natAbs).length ≤ (1000 : Nat)) ( .call 775 [(.int (z))] [] (.bytes (ap z.natAbs)) [] ( .need (isAscii ([97, 115, 99, 105, 105] : List Nat) ∧ asciiOk (ap z.natAbs)) ( .need (partOk (some (1 : Int)) none ∧ (List.map UInt8.toNat (ap z.natAbs)).length ≤ sizeLine) ( .call 722 [(.str (cutL (List.map UInt8.toNat (ap z.natAbs)) (some (1 : Int)) none)), .none, (D.tt)] [] (.obj 0) [(.inst 722 1), (shD [35] [97, 98, 99, 100, 102, 101, 103, 104, 105, 106, 107, 108, 109, 110, 111, 112, 113, 114, 115, 116, 117, 118, 119, 120, 121, 122, 65, 66, 67, 68, 69, 70, 71, 72, 73, 74, 75, 76, 77, 78, 79, 80, 81, 82, 83, 84, 85, 86, 87, 88, 89, 90, 48, 49, 50, 51, 52, 53, 54, 55, 56, 57, 95, 223, 224, 225, 226, 227, 228, 229, 230, 231, 232, 233, 234, 235, 236, 237, 238, 239, 240, 241, 242, 243, 244, 245, 246, 248, 249, 250, 251, 252, 253, 254, 255, 192, 193, 194, 195, 196, 197, 198, 199, 200, 201, 202, 203, 204, 205, 206, 207, 208, 209, 210, 211, 212, 213, 214, 216, 217, 218, 219, 220, 221, 222] [32, 9, 13, 10] (D.ff) [39, 34] [92] [34] (.str [32]) ((1 : Int)) []), (.inst 587 3), (sioD (cutL (List.map UInt8.toNat (ap z.natAbs)) (some (1 : Int)) none) ((0 : Int))), .deq, .deq] ( .need ((0 : Int) ≤ (0 : Int) ∧ (0 : Int) < (↑[r0, r1, r2, r3].length : Int) ∧ [r0, r1, r2, r3].length ≤ sizeLine) ( .need ((0 : Int) ≤ (1 : Int) ∧ (1 : Int) < (↑[r0, r1, r2, r3].length : Int) ∧ [r0, r1, r2, r3].length ≤ sizeLine) ( .need ((0 : Int) ≤ (3 : Int) ∧ (3 : Int) < (↑[r0, r1, r2, r3].length : Int) ∧ [r0, r1, r2, r3].length ≤ sizeLine) ( .need ([[r0, r1, r2, r3].getD (Int.toNat (1 : Int)) (0 : Nat)].length +     [[r0, r1, r2, r3].getD (Int.toNat (3 : Int)) (0 : Nat)].length ≤   sizeLine) ( .need ((0 : Int) ≤ (2 : Int) ∧ (2 : Int) < (↑[r0, r1, r2, r3].length : Int) ∧ [r0, r1, r2, r3].length ≤ sizeLine) ( .need ((0 : Int) ≤ (1 : Int) ∧ (1 : Int) < (↑[r0, r1, r2, r3].length : Int) ∧ [r0, r1, r2, r3].length ≤ sizeLine) ( .ret .next ⟨[(S "number", (.int (z))), (S "roles", (.str ([r0, r1, r2, r3]))), (S "lexer", (.obj 0))], [], [(.inst 722 1), (shD [] [] ([[r0, r1, r2, r3].getD (Int.toNat (0 : Int)) (0 : Nat)]) (D.tt) ([[r0, r1, r2, r3].getD (Int.toNat (1 : Int)) (0 : Nat)] ++ [[r0, r1, r2, r3].getD (Int.toNat (3 : Int)) (0 : Nat)]) ([[r0, r1, r2, r3].getD (Int.toNat (2 : Int)) (0 : Nat)]) ([[r0, r1, r2, r3].getD (Int.toNat (1 : Int)) (0 : Nat)]) (.str [32]) ((1 : Int)) []), (.inst 587 3), (sioD (cutL (List.map UInt8.toNat (ap z.natAbs)) (some (1 : Int)) none) ((0 : Int))), .deq, .deq]⟩)))))))))))) (by kernel_rfl!) ?_))
  have n0 : ∀ j : Int, 0 ≤ j ∧ j < 4 → 0 ≤ j ∧ j < (([r0, r1, r2, r3].length : Nat) : Int) ∧ [r0, r1, r2, r3].length ≤ sizeLine := fun j h => ⟨h.1, h.2, (by decide : 4 ≤ sizeLine)⟩
  refine ok_need hz ⟨⟨n + 4, hx.n, ap_ok _ _ z (by omega)⟩, ok_need ⟨rfl, ap_ascii _ hz⟩ (ok_need ⟨⟨by decide, trivial⟩, by omega⟩ ⟨⟨n + 4, hx.n, make722_ok _ n _⟩, ok_need (n0 0 (by decide)) (ok_need (n0 1 (by decide)) (ok_need (n0 3 (by decide)) (ok_need (show 1 + 1 ≤ sizeLine by decide) (ok_need (n0 2 (by decide)) (ok_need (n0 1 (by decide)) ?_)))))⟩)⟩
  generalize hb : ((ap z.natAbs).map UInt8.toNat).drop 1 = b at hH
  show ExOk x _ (he0 z r0 r1 r2 r3 (.str [32]) (((ap z.natAbs).map UInt8.toNat).drop 1) 0) _
  rw [hb]
  have hbl : b.length < 1000000 := by rw [← hb, List.length_drop, hlen]; omega
  have hbc : ∀ c ∈ b, c ≠ 10 := fun c hc => by
    rw [← hb] at hc
    obtain ⟨c', h1, rfl⟩ := List.mem_map.mp (List.mem_of_mem_drop hc)
    have := ap_chars _ _ h1
    omega
  obtain ⟨st', p', d', h1, h2, h3, h4⟩ := heard_left x.w (n + 1) ro b hbl hbc hH (List.suffix_refl b)
  rw [Nat.sub_self] at h3
  refine ExOk.app (he_first (n := n + 1) (.inr ⟨_, rfl⟩) h1 h2 hx.ok hx.n hN h3 ?_)
  show ExOk x _ _ _
  refine ExOk.app ?_
  have eW : [st1 B35 9] = [.While (wTest (st1 B35 9)) (wBody (st1 B35 9)) [] (wPos (st1 B35 9))] := by kernel_rfl!
  rw [eW]
  refine ExOk.while (c := g35) hx.ok hN ha (fun m σ => ∃ done todo st p d, Left x.w (n + 1) r0 r1 r2 r3 b st p d todo ∧ done ++ todo = ws ∧ todo.length = m ∧ WOk st ∧ σ = heSt z r0 r1 r2 r3 st b p (accS done) d) ?_ (n := ws.length) ?_
  · rintro m σ ⟨done, todo, st, p, d, hL, hd, rfl, hst, rfl⟩
    cases hL with
    | nil _ =>
      rw [List.append_nil] at hd
      subst hd
      refine ok_eq (t' := .ret .no (heSt z r0 r1 r2 r3 st b p (accS done) .none)) (by cases done <;> kernel_rfl!) (ok_nay ?_)
      show ExOk x _ _ _
      have eR : [st1 B35 10] = [.Return (some C35) (stPos (st1 B35 10))] := by kernel_rfl!
      rw [eR]
      refine ExOk.returnEv (he_read (n := n + 4) hst hx.ok hx.n hN done hl hw ?_)
      refine ⟨[7], by rfl, ?_, by rfl, ?_⟩
      · rcases hst with rfl | ⟨u1, rfl⟩ <;> cases done <;> rfl
      · rcases hst with rfl | ⟨u1, rfl⟩ <;> cases done <;> rfl
    | @cons _ _ st2 p2 d2 u todo' a1 a2 a3 a4 a5 =>
      refine ok_eq (t' := .ret .yes (heSt z r0 r1 r2 r3 st b p (accS done) (.str u))) (by cases done <;> kernel_rfl!) (ok_yes ?_)
      have hdl : done.length ≤ sizeLine := by
        have : done.length ≤ ws.length := by rw [← hd]; simp
        omega
      refine he_turn (n := n + 1) a1 a2 a3 hx.ok hx.n hN u done hdl a4 ?_
      refine ⟨todo'.length, by simp, [0, 1, 2, 3, 4, 5, 6], 5, ?_, done ++ [u], todo', st2, p2, d2, a5, by simp [hd], rfl, a2, ?_⟩
      · rw [accS_snoc]
        rcases a2 with rfl | ⟨u2, rfl⟩ <;> rcases a3 with rfl | ⟨u3, rfl⟩ <;> rfl
      · rw [accS_snoc]
        rcases a2 with rfl | ⟨u2, rfl⟩ <;> rcases a3 with rfl | ⟨u3, rfl⟩ <;> rfl
  · refine ⟨[0, 1, 2, 3, 4, 5, 6], 5, ?_, [], ws, st', p', d', h4, rfl, rfl, h1, ?_⟩
    · rcases h1 with rfl | ⟨u2, rfl⟩ <;> rcases h2 with rfl | ⟨u3, rfl⟩ <;> rfl
    · rcases h1 with rfl | ⟨u2, rfl⟩ <;> rcases h2 with rfl | ⟨u3, rfl⟩ <;> rfl
end
end Mine
namespace Mine
noncomputable section
noncomputable abbrev S37 : Stmt := topSt 37
noncomputable abbrev B37 : List Stmt := bodyOf S37
noncomputable abbrev g37 : Cfg := cfg noSp S37
noncomputable def plSt (xs : List Int) (a v : Int) : St := ⟨[(S "row", .obj 0), (S "act", .int a), (S "value", .int v)], [], [.ints xs]⟩
noncomputable abbrev S38 : Stmt := topSt 38
noncomputable abbrev B38 : List Stmt := bodyOf S38
noncomputable abbrev g38 : Cfg := cfg noSp S38
noncomputable abbrev C38 : Expr := asgE (st1 B38 0)
noncomputable abbrev c38 : Cfg := ⟨noSp, noCp, relabN g38.N (cScope C38).names⟩
noncomputable def rtOs (xs ls rs : List Int) : List AO := [.ints xs, .ints ls, .ints rs, .cell (some (.obj 0))]
noncomputable def rgSt (xs ls rs : List Int) (os : List AO) : St := ⟨[(S "laid", .obj 1), (S "row", .obj 2)], [(S "heap", 3)], rtOs xs ls rs ++ os⟩
noncomputable def rgIn (xs ls rs : List Int) (os : List AO) : St := ⟨[], celN [(S "heap", 3)] (cScope C38).names, rtOs xs ls rs ++ os⟩
noncomputable def emptyU : List Nat := [101, 109, 112, 116, 121]
noncomputable def plainD (xs : List Int) (a v : Int) : D := if a = 2 ∨ a = 4 then (match xs with | [] => .str emptyU | x :: _ => .int x) else if a = 3 then .int ((srt (xs ++ [v])).headD 0) else .none
noncomputable def plainL (xs : List Int) (a v : Int) : List Int := if a = 2 then xs.tail else if a = 4 then (match xs with | [] => [] | _ :: r => srt (r ++ [v])) else if a = 3 then (srt (xs ++ [v])).tail else srt (xs ++ [v])
theorem plain_ok (w : World) (n : Nat) (xs : List Int) (a v : Int) (ha : 0 ≤ a ∧ a < 5) (hl : xs.length < 60) : CallOk w n 823 [.obj 0, .int a, .int v] [.ints xs] fun d o => d = plainD xs a v ∧ o = [.ints (plainL xs a v)] := by
  have hsz : 1000000 * 4 ≤ sizeLine := by decide
  refine enterC (oc := .type "function") (fd := F823) (body := B37) (names := [S "row", S "act", S "value"]) [] [] .nil (by kernel_rfl!) (by kernel_rfl!) (by kernel_rfl!) (by kernel_rfl!) (by kernel_rfl!) (fun s vals _ h => match vals, h with | [a, b, c], _ => .of_eq (by kernel_rfl!)) fun x hx => ?_
  have hN : x.env.scope.names = g37.N := by rw [hx.sc]; kernel_rfl!
  have e0 : entry F823.scope.names ([S "row", S "act", S "value"].zip ([.obj 0, .int a, .int v] ++ [])) [.ints xs] = plSt xs a v := by kernel_rfl!
  rw [e0]
  have t2 : [D.int (2 : Int), D.int (4 : Int)].length ≤ sizeLine := (by decide : 2 ≤ sizeLine)
  have len : ∀ l : List Int, (srt l).length = l.length := fun l => (srt_perm l).length_eq
  obtain rfl | rfl | rfl | rfl | rfl : a = 0 ∨ a = 1 ∨ a = 2 ∨ a = 3 ∨ a = 4 := by omega
  · refine ExOk.tree (c := g37) hx.ok hN (n := 40) (ok_path (ws := [false, false, true, false]) (t' := .need ([D.int (2 : Int), D.int (4 : Int)].length ≤ sizeLine) ( .need (([(2 : Int), (4 : Int)].any fun x => x == (0 : Int)) = false) ( .need ([D.int (2 : Int), D.int (4 : Int)].length ≤ sizeLine) ( .need (([(2 : Int), (4 : Int)].any fun x => x == (0 : Int)) = false) ( .need ((!decide ((0 : Int) = (2 : Int))) = true) ( .need (xs.length ≤ sizeLine) ( .need ((0 : Nat) < (xs ++ [v]).length ∧ (xs ++ [v]).length < (64 : Nat)) ( .need (decide ((0 : Int) = (3 : Int)) = false) ( .ret (.ret .none) ⟨[(S "row", (.obj 0)), (S "act", (.int ((0 : Int)))), (S "value", (.int (v))), (S "gone", .none)], [], [(.ints (srt (xs ++ [v]))), (.tup [(.int ((2 : Int))), (.int ((4 : Int)))]), (.tup [(.int ((2 : Int))), (.int ((4 : Int)))])]⟩))))))))) (by kernel_rfl!) ?_)
    exact ok_need t2 (ok_need rfl (ok_need t2 (ok_need rfl (ok_need rfl (ok_need (by omega) (ok_need ⟨by simp, by simp; omega⟩ (ok_need rfl ⟨[0], by rfl, by rfl, rfl, rfl⟩)))))))
  · refine ExOk.tree (c := g37) hx.ok hN (n := 40) (ok_path (ws := [false, false, true, false]) (t' := .need ([D.int (2 : Int), D.int (4 : Int)].length ≤ sizeLine) ( .need (([(2 : Int), (4 : Int)].any fun x => x == (1 : Int)) = false) ( .need ([D.int (2 : Int), D.int (4 : Int)].length ≤ sizeLine) ( .need (([(2 : Int), (4 : Int)].any fun x => x == (1 : Int)) = false) ( .need ((!decide ((1 : Int) = (2 : Int))) = true) ( .need (xs.length ≤ sizeLine) ( .need ((0 : Nat) < (xs ++ [v]).length ∧ (xs ++ [v]).length < (64 : Nat)) ( .need (decide ((1 : Int) = (3 : Int)) = false) ( .ret (.ret .none) ⟨[(S "row", (.obj 0)), (S "act", (.int ((1 : Int)))), (S "value", (.int (v))), (S "gone", .none)], [], [(.ints (srt (xs ++ [v]))), (.tup [(.int ((2 : Int))), (.int ((4 : Int)))]), (.tup [(.int ((2 : Int))), (.int ((4 : Int)))])]⟩))))))))) (by kernel_rfl!) ?_)
    exact ok_need t2 (ok_need rfl (ok_need t2 (ok_need rfl (ok_need rfl (ok_need (by omega) (ok_need ⟨by simp, by simp; omega⟩ (ok_need rfl ⟨[0], by rfl, by rfl, rfl, rfl⟩)))))))
  · cases xs with
    | nil =>
      refine ExOk.tree (c := g37) hx.ok hN (n := 40) (ok_path (ws := [true, true]) (t' := (fun (xs : List Int) => (.need ([D.int (2 : Int), D.int (4 : Int)].length ≤ sizeLine) ( .need (([(2 : Int), (4 : Int)].any fun x => x == (2 : Int)) = true) ( .need (xs.length ≤ sizeLine) ( .need ((!!decide (xs = [])) = true) ( .ret (.ret (.str [101, 109, 112, 116, 121])) ⟨[(S "row", (.obj 0)), (S "act", (.int ((2 : Int)))), (S "value", (.int (v)))], [], [(.ints (xs)), (.tup [(.int ((2 : Int))), (.int ((4 : Int)))])]⟩)))) : T Fl)) []) (by kernel_rfl!) ?_)
      exact ok_need t2 (ok_need rfl (ok_need (by simp) (ok_need rfl ⟨[0], by rfl, by rfl, rfl, rfl⟩)))
    | cons y l =>
      simp only [List.length_cons] at hl
      refine ExOk.tree (c := g37) hx.ok hN (n := 40) (ok_path (ws := [true, false, true, false, false]) (t' := (fun (xs : List Int) => (.need ([D.int (2 : Int), D.int (4 : Int)].length ≤ sizeLine) ( .need (([(2 : Int), (4 : Int)].any fun x => x == (2 : Int)) = true) ( .need (xs.length ≤ sizeLine) ( .need ((!!decide (xs = [])) = false) ( .need ([D.int (2 : Int), D.int (4 : Int)].length ≤ sizeLine) ( .need (([(2 : Int), (4 : Int)].any fun x => x == (2 : Int)) = true) ( .need ((0 : Int) = (0 : Int) ∧ (0 : Nat) < xs.length ∧ xs.length ≤ sizeLine) ( .need ((!decide ((2 : Int) = (2 : Int))) = false) ( .need (decide ((2 : Int) = (3 : Int)) = false) ( .ret (.ret (.int (xs.headD (0 : Int)))) ⟨[(S "row", (.obj 0)), (S "act", (.int ((2 : Int)))), (S "value", (.int (v))), (S "gone", (.int (xs.headD (0 : Int))))], [], [(.ints (xs.tail)), (.tup [(.int ((2 : Int))), (.int ((4 : Int)))]), (.tup [(.int ((2 : Int))), (.int ((4 : Int)))])]⟩))))))))) : T Fl)) (y :: l)) (by kernel_rfl!) ?_)
      exact ok_need t2 (ok_need rfl (ok_need (by simp; omega) (ok_need rfl (ok_need t2 (ok_need rfl (ok_need ⟨rfl, by simp, by simp; omega⟩ (ok_need rfl (ok_need rfl ⟨[0], by rfl, by rfl, rfl, rfl⟩))))))))
  · refine ExOk.tree (c := g37) hx.ok hN (n := 40) (ok_path (ws := [false, false, true, true]) (t' := .need ([D.int (2 : Int), D.int (4 : Int)].length ≤ sizeLine) ( .need (([(2 : Int), (4 : Int)].any fun x => x == (3 : Int)) = false) ( .need ([D.int (2 : Int), D.int (4 : Int)].length ≤ sizeLine) ( .need (([(2 : Int), (4 : Int)].any fun x => x == (3 : Int)) = false) ( .need ((!decide ((3 : Int) = (2 : Int))) = true) ( .need (xs.length ≤ sizeLine) ( .need ((0 : Nat) < (xs ++ [v]).length ∧ (xs ++ [v]).length < (64 : Nat)) ( .need (decide ((3 : Int) = (3 : Int)) = true) ( .need ((0 : Int) = (0 : Int) ∧ (0 : Nat) < (srt (xs ++ [v])).length ∧ (srt (xs ++ [v])).length ≤ sizeLine) ( .ret (.ret (.int ((srt (xs ++ [v])).headD (0 : Int)))) ⟨[(S "row", (.obj 0)), (S "act", (.int ((3 : Int)))), (S "value", (.int (v))), (S "gone", .none)], [], [(.ints ((srt (xs ++ [v])).tail)), (.tup [(.int ((2 : Int))), (.int ((4 : Int)))]), (.tup [(.int ((2 : Int))), (.int ((4 : Int)))])]⟩)))))))))) (by kernel_rfl!) ?_)
    exact ok_need t2 (ok_need rfl (ok_need t2 (ok_need rfl (ok_need rfl (ok_need (by omega) (ok_need ⟨by simp, by simp; omega⟩ (ok_need rfl (ok_need ⟨rfl, by rw [len]; simp, by rw [len]; simp; omega⟩ ⟨[0], by rfl, by rfl, rfl, rfl⟩))))))))
  · cases xs with
    | nil =>
      refine ExOk.tree (c := g37) hx.ok hN (n := 40) (ok_path (ws := [true, true]) (t' := (fun (xs : List Int) => (.need ([D.int (2 : Int), D.int (4 : Int)].length ≤ sizeLine) ( .need (([(2 : Int), (4 : Int)].any fun x => x == (4 : Int)) = true) ( .need (xs.length ≤ sizeLine) ( .need ((!!decide (xs = [])) = true) ( .ret (.ret (.str [101, 109, 112, 116, 121])) ⟨[(S "row", (.obj 0)), (S "act", (.int ((4 : Int)))), (S "value", (.int (v)))], [], [(.ints (xs)), (.tup [(.int ((2 : Int))), (.int ((4 : Int)))])]⟩)))) : T Fl)) []) (by kernel_rfl!) ?_)
      exact ok_need t2 (ok_need rfl (ok_need (by simp) (ok_need rfl ⟨[0], by rfl, by rfl, rfl, rfl⟩)))
    | cons y l =>
      simp only [List.length_cons] at hl
      refine ExOk.tree (c := g37) hx.ok hN (n := 40) (ok_path (ws := [true, false, true, true, false]) (t' := (fun (xs : List Int) => (.need ([D.int (2 : Int), D.int (4 : Int)].length ≤ sizeLine) ( .need (([(2 : Int), (4 : Int)].any fun x => x == (4 : Int)) = true) ( .need (xs.length ≤ sizeLine) ( .need ((!!decide (xs = [])) = false) ( .need ([D.int (2 : Int), D.int (4 : Int)].length ≤ sizeLine) ( .need (([(2 : Int), (4 : Int)].any fun x => x == (4 : Int)) = true) ( .need ((0 : Int) = (0 : Int) ∧ (0 : Nat) < xs.length ∧ xs.length ≤ sizeLine) ( .need ((!decide ((4 : Int) = (2 : Int))) = true) ( .need (xs.tail.length ≤ sizeLine) ( .need ((0 : Nat) < (xs.tail ++ [v]).length ∧ (xs.tail ++ [v]).length < (64 : Nat)) ( .need (decide ((4 : Int) = (3 : Int)) = false) ( .ret (.ret (.int (xs.headD (0 : Int)))) ⟨[(S "row", (.obj 0)), (S "act", (.int ((4 : Int)))), (S "value", (.int (v))), (S "gone", (.int (xs.headD (0 : Int))))], [], [(.ints (srt (xs.tail ++ [v]))), (.tup [(.int ((2 : Int))), (.int ((4 : Int)))]), (.tup [(.int ((2 : Int))), (.int ((4 : Int)))])]⟩))))))))))) : T Fl)) (y :: l)) (by kernel_rfl!) ?_)
      exact ok_need t2 (ok_need rfl (ok_need (by simp; omega) (ok_need rfl (ok_need t2 (ok_need rfl (ok_need ⟨rfl, by simp, by simp; omega⟩ (ok_need rfl (ok_need (by simp; omega) (ok_need ⟨by simp, by simp; omega⟩ (ok_need rfl ⟨[0], by rfl, by rfl, rfl, rfl⟩))))))))))
/-- no item is less than the one above it -/
noncomputable def HeapOk (xs : List Int) : Prop := ∀ i, i + 1 < xs.length → ¬ xs.getD (i + 1) 0 < xs.getD (i / 2) 0
theorem right_ok (w : World) (n : Nat) (xs : List Int) (hh : HeapOk xs) (hl : xs.length < 60) : CallOk w n 828 [.obj 0, .obj 1, .obj 2] [.ints xs, .ints xs, .ints (srt xs)] fun d o => d = .bool true ∧ o = [.ints xs, .ints xs, .ints (srt xs)] := by
  have hsz : 1000000 * 4 ≤ sizeLine := by decide
  refine enterC (oc := .type "function") (fd := F828) (body := [st1 B38 0] ++ B38.drop 1) (names := [S "heap", S "laid", S "row"]) [] [] .nil (by kernel_rfl!) (by kernel_rfl!) (by kernel_rfl!) (by kernel_rfl!) (by kernel_rfl!) (fun s vals _ h => match vals, h with | [a, b, c], _ => .of_eq (by kernel_rfl!)) fun x hx => ?_
  have hN : x.env.scope.names = g38.N := by rw [hx.sc]; kernel_rfl!
  have e0 : entry F828.scope.names ([S "heap", S "laid", S "row"].zip ([.obj 0, .obj 1, .obj 2] ++ [])) [.ints xs, .ints xs, .ints (srt xs)] = rgSt xs xs (srt xs) [] := by kernel_rfl!
  rw [e0]
  have e : [st1 B38 0] = [.Assign [.Name (S "below") (tgtPos (st1 B38 0))] (.ListComp (cElt C38) [⟨.Name (S "i") (cTp C38), cIter C38, cIfs C38, 0⟩] (cScope C38) (cPos C38)) (stPos (st1 B38 0))] := by kernel_rfl!
  rw [e]
  refine ExOk.app (ExOk.comp (c := g38) hx.ok hN c38 5 xs.length (.range 1 ((xs.length : Int) - 1).toNat) (fun i σ => i ≤ ((xs.length : Int) - 1).toNat ∧ σ = rgIn xs xs (srt xs) [.rng 1 xs.length, .it (.range 1 ((xs.length : Int) - 1).toNat) i, .ints []])
    ((swaps_eq hx.ok hN _ _ _ _).trans (by kernel_rfl!)) (by kernel_rfl!) (by intro _; rfl) (by kernel_rfl!) (by kernel_rfl!) (by kernel_rfl!) ?_ ?_ ?_)
  · refine ok_eq (t' := .need (xs.length ≤ sizeLine) (.ret (.obj 4) (rgSt xs xs (srt xs) [.rng 1 xs.length]))) (by kernel_rfl!) ?_
    refine ok_need (by omega) ?_
    refine ⟨small_one (by decide) (by decide) (by omega) (by omega), rfl, rfl, by rfl, by rfl, rfl, rfl, ⟨0, rfl⟩, ⟨by omega, by rfl⟩, ?_⟩
    rintro i σ' ⟨hi, rfl⟩ hq
    have hq := item_rng_none hq
    refine ⟨[0, 1, 2, 3, 4, 6], 0, by rfl, by rfl, by rfl, ?_⟩
    show ExOk x _ _ _
    refine ExOk.tree (c := g38) hx.ok hN (n := 40) (ok_path (ws := [true, true]) (t' := (fun (ls rs : List Int) (z : Int) => (.need (decide (xs = ls) = true) ( .need (xs.length < (64 : Nat)) ( .need (decide (srt xs = rs) = true) ( .need (([] : List Nat).length ≤ sizeLine) ( .ret (.ret (.bool (decide (([] : List Nat) = [])))) ⟨[(S "laid", (.obj 1)), (S "row", (.obj 2)), (S "below", (.obj 5))], [(S "heap", 3)], [(.ints (xs)), (.ints (ls)), (.ints (rs)), (.cell (some (.obj 0))), (AO.rng (1 : Int) z), (.ints ([])), (.ints (srt xs)), (.ints ([]))]⟩)))) : T Fl)) xs (srt xs) xs.length) (by kernel_rfl!) ?_)
    exact ok_need (decide_eq_true rfl) (ok_need (by omega) (ok_need (decide_eq_true rfl) (ok_need (by simp) ⟨[0, 1, 2], by rfl, by rfl, rfl, rfl⟩)))
  · rintro i σ ⟨hi, rfl⟩; omega
  · rintro x' hx' i σ ⟨hi, rfl⟩
    refine ⟨rfl, rfl, fun d hd => ?_⟩
    obtain ⟨hlt, rfl⟩ := item_rng hd
    have q1 : ((1 : Int) + (i : Nat)).toNat = i + 1 := by omega
    have q2 : (((1 : Int) + (i : Nat) - 1).fdiv 2) = ((i / 2 : Nat) : Int) := by rw [Int.fdiv_eq_ediv_of_nonneg _ (by decide)]; omega
    have hc := hh i (by omega)
    refine ok_path (ws := [false]) (t' := (fun (ls rs : List Int) (z : Int) (m : Nat) => (.need ((0 : Int) ≤ (1 : Int) + (↑i : Int) ∧ (1 : Int) + (↑i : Int) < (↑xs.length : Int) ∧ xs.length ≤ sizeLine) ( .need ((2 : Int) ≠ (0 : Int) ∧ Builtin.divisionGoesByPylong ((1 : Int) + (↑i : Int) - (1 : Int)) (2 : Int) = false) ( .need ((0 : Int) ≤ ((1 : Int) + (↑i : Int) - (1 : Int)).fdiv (2 : Int) ∧   ((1 : Int) + (↑i : Int) - (1 : Int)).fdiv (2 : Int) < (↑xs.length : Int) ∧ xs.length ≤ sizeLine) ( .need (decide     (xs.getD ((1 : Int) + (↑i : Int)).toNat (0 : Int) <       xs.getD (((1 : Int) + (↑i : Int) - (1 : Int)).fdiv (2 : Int)).toNat (0 : Int)) =   false) ( .ret () ⟨[(S "i", (.int ((1 : Int) + (↑i : Int))))], [(S "heap", 3)], [(.ints (xs)), (.ints (ls)), (.ints (rs)), (.cell (some (.obj 0))), (AO.rng (1 : Int) z), (AO.it (ItK.range (1 : Int) m) (i + (1 : Nat))), (.ints ([]))]⟩)))) : T Unit)) xs (srt xs) xs.length ((xs.length : Int) - 1).toNat) (by kernel_rfl!) ?_
    refine ok_need ⟨by omega, by omega, by omega⟩ (ok_need ⟨by decide, PyProof.noPylong_small (by decide)⟩ (ok_need ?_ (ok_need ?_ ⟨[0, 1, 2, 3, 4, 5, 6], 0, by rfl, by omega, by rfl⟩)))
    · rw [q2]; exact ⟨by omega, by omega, by omega⟩
    · rw [q1, q2, Int.toNat_natCast]; exact decide_eq_false hc
end
end Mine
namespace Mine
noncomputable section
theorem glue_acc (sep : List Nat) : ∀ (l : List (List Nat)) (acc : List Nat), l.foldl (fun acc p => acc ++ sep ++ p) acc = acc ++ (l.map fun p => sep ++ p).flatten := by
  intro l
  induction l with
  | nil => intro acc; simp
  | cons p r ih => intro acc; rw [List.foldl_cons, ih]; simp
theorem glue_eq (sep : List Nat) (s : List Nat) (l : List (List Nat)) : glue sep (s :: l) = s ++ (l.map fun p => sep ++ p).flatten := by
  unfold glue
  rw [glue_acc]; rfl
theorem glue_one (sep s : List Nat) : glue sep [s] = s := by rw [glue_eq]; simp
theorem glue_two (sep s s' : List Nat) (l : List (List Nat)) : glue sep (s :: s' :: l) = s ++ (sep ++ glue sep (s' :: l)) := by
  rw [glue_eq, glue_eq]; simp
theorem glue_bare (l : List (List Nat)) : glue [] l = l.flatten := by
  cases l with
  | nil => rfl
  | cons s l => rw [glue_eq]; simp
section
variable {r0 r1 r2 r3 : Nat}
theorem wd_eof (tok : List Nat) (q : Bool) : lexR r0 r1 r2 r3 .wd tok q [] = some (tok, q, true, []) := rfl
theorem wd_cons (tok : List Nat) (q : Bool) (c : Nat) (r : List Nat) : lexR r0 r1 r2 r3 .wd tok q (c :: r) = if c = r0 then some (tok, q, false, r) else if c ∈ [r1, r3] then lexR r0 r1 r2 r3 (.inq c) tok q r else if c = r2 then lexR r0 r1 r2 r3 (.esc 97) tok q r else lexR r0 r1 r2 r3 .wd (tok ++ [c]) q r := rfl
theorem sp_cons (tok : List Nat) (q : Bool) (c : Nat) (r : List Nat) : lexR r0 r1 r2 r3 .sp tok q (c :: r) = if c = r0 then lexR r0 r1 r2 r3 .sp tok q r else if c = r2 then lexR r0 r1 r2 r3 (.esc 97) tok q r else if c ∈ [r1, r3] then lexR r0 r1 r2 r3 (.inq c) tok q r else lexR r0 r1 r2 r3 .wd [c] q r := rfl
theorem inq_cons (a : Nat) (tok : List Nat) (q : Bool) (c : Nat) (r : List Nat) : lexR r0 r1 r2 r3 (.inq a) tok q (c :: r) = if c = a then lexR r0 r1 r2 r3 .wd tok true r else if c = r2 ∧ a = r1 then lexR r0 r1 r2 r3 (.esc a) tok true r else lexR r0 r1 r2 r3 (.inq a) (tok ++ [c]) true r := rfl
theorem esc_cons (e : Nat) (tok : List Nat) (q : Bool) (c : Nat) (r : List Nat) : lexR r0 r1 r2 r3 (.esc e) tok q (c :: r) = if e = 97 then lexR r0 r1 r2 r3 .wd (tok ++ [c]) q r else if c ≠ r2 ∧ c ≠ e then lexR r0 r1 r2 r3 (.inq e) (tok ++ [r2] ++ [c]) q r else lexR r0 r1 r2 r3 (.inq e) (tok ++ [c]) q r := rfl
noncomputable def Lex (r0 r1 r2 r3 : Nat) (s w : List Nat) : Prop := ∃ q : Bool, (q = true ∨ w ≠ []) ∧ ∀ t, lexR r0 r1 r2 r3 .sp [] false (s ++ t) = lexR r0 r1 r2 r3 .wd w q t
theorem lex_bare_wd (ro : Ro r0 r1 r2 r3) : ∀ (w tok : List Nat) (q : Bool) (t : List Nat), lexR r0 r1 r2 r3 .wd tok q ((bare r0 r1 r2 r3 w).flatten ++ t) = lexR r0 r1 r2 r3 .wd (tok ++ w) q t := by
  intro w
  induction w with
  | nil => intro tok q t; simp [bare]
  | cons c w ih =>
    intro tok q t
    have d12 := ro.d12
    have d02 := ro.d02
    have d23 := ro.d23
    have e : bare r0 r1 r2 r3 (c :: w) = (if c ∈ [r0, r1, r2, r3] then [r2, c] else [c]) :: bare r0 r1 r2 r3 w := rfl
    rw [e, List.flatten_cons, List.append_assoc]
    by_cases hc : c ∈ [r0, r1, r2, r3]
    · rw [if_pos hc]
      show lexR r0 r1 r2 r3 .wd tok q (r2 :: c :: ((bare r0 r1 r2 r3 w).flatten ++ t)) = _
      rw [wd_cons, if_neg (Ne.symm d02), if_neg (by simp; omega), if_pos rfl, esc_cons, if_pos rfl, ih]
      simp
    · rw [if_neg hc]
      show lexR r0 r1 r2 r3 .wd tok q (c :: ((bare r0 r1 r2 r3 w).flatten ++ t)) = _
      simp only [List.mem_cons, List.not_mem_nil, or_false, not_or] at hc
      rw [wd_cons, if_neg hc.1, if_neg (by simp; omega), if_neg hc.2.2.1, ih]
      simp
theorem lex_bare (ro : Ro r0 r1 r2 r3) (w : List Nat) (hw : w ≠ []) : Lex r0 r1 r2 r3 (glue [] (bare r0 r1 r2 r3 w)) w := by
  refine ⟨false, .inr hw, fun t => ?_⟩
  rw [glue_bare]
  cases w with
  | nil => exact absurd rfl hw
  | cons c w =>
    have d02 := ro.d02
    have e : bare r0 r1 r2 r3 (c :: w) = (if c ∈ [r0, r1, r2, r3] then [r2, c] else [c]) :: bare r0 r1 r2 r3 w := rfl
    rw [e, List.flatten_cons, List.append_assoc]
    by_cases hc : c ∈ [r0, r1, r2, r3]
    · rw [if_pos hc]
      show lexR r0 r1 r2 r3 .sp [] false (r2 :: c :: ((bare r0 r1 r2 r3 w).flatten ++ t)) = _
      rw [sp_cons, if_neg (Ne.symm d02), if_pos rfl, esc_cons, if_pos rfl, lex_bare_wd ro]
      simp
    · rw [if_neg hc]
      show lexR r0 r1 r2 r3 .sp [] false (c :: ((bare r0 r1 r2 r3 w).flatten ++ t)) = _
      simp only [List.mem_cons, List.not_mem_nil, or_false, not_or] at hc
      rw [sp_cons, if_neg hc.1, if_neg hc.2.2.1, if_neg (by simp; omega), lex_bare_wd ro]
      simp
theorem lex_second (ro : Ro r0 r1 r2 r3) (w : List Nat) (hw : ¬ r3 ∈ w) : Lex r0 r1 r2 r3 ([r3] ++ w ++ [r3]) w := by
  refine ⟨true, .inl rfl, fun t => ?_⟩
  have d03 := ro.d03
  have d13 := ro.d13
  have d23 := ro.d23
  have key : ∀ (w tok : List Nat) (q : Bool), ¬ r3 ∈ w → lexR r0 r1 r2 r3 (.inq r3) tok q (w ++ r3 :: t) = lexR r0 r1 r2 r3 .wd (tok ++ w) true t := by
    intro w
    induction w with
    | nil => intro tok q _; rw [List.nil_append, inq_cons, if_pos rfl, List.append_nil]
    | cons c w ih =>
      intro tok q h
      simp only [List.mem_cons, not_or] at h
      rw [List.cons_append, inq_cons, if_neg (Ne.symm h.1), if_neg (by intro z; exact d13 z.2.symm), ih _ _ h.2]
      simp
  have e : [r3] ++ w ++ [r3] ++ t = r3 :: (w ++ r3 :: t) := by simp
  rw [e, sp_cons, if_neg (Ne.symm d03), if_neg (Ne.symm d23), if_pos (by simp), key _ _ _ hw, List.nil_append]
theorem lex_ins (ro : Ro r0 r1 r2 r3) (t : List Nat) : ∀ (n : Nat) (w tok : List Nat) (q : Bool), w.length ≤ n → lexR r0 r1 r2 r3 (.inq r1) tok q (insW r1 r2 w ++ r1 :: t) = lexR r0 r1 r2 r3 .wd (tok ++ w) true t := by
  have d12 := ro.d12
  have b1 := ro.b1
  intro n
  induction n with
  | zero =>
    intro w tok q h
    obtain rfl : w = [] := List.length_eq_zero_iff.mp (by omega)
    show lexR r0 r1 r2 r3 (.inq r1) tok q (r1 :: t) = _
    rw [inq_cons, if_pos rfl, List.append_nil]
  | succ n ih =>
    intro w tok q h
    cases w with
    | nil =>
      show lexR r0 r1 r2 r3 (.inq r1) tok q (r1 :: t) = _
      rw [inq_cons, if_pos rfl, List.append_nil]
    | cons c w =>
      simp only [List.length_cons] at h
      rw [insW_cons, List.append_assoc]
      by_cases hc : c = r1 ∨ (c = r2 ∧ alone r1 r2 w = false)
      · rw [if_pos hc]
        show lexR r0 r1 r2 r3 (.inq r1) tok q (r2 :: c :: (insW r1 r2 w ++ r1 :: t)) = _
        have hcc : c = r1 ∨ c = r2 := hc.imp id fun z => z.1
        rw [inq_cons, if_neg (Ne.symm d12), if_pos ⟨rfl, rfl⟩, esc_cons, if_neg (by omega), if_neg (by rintro ⟨z1, z2⟩; exact hcc.elim z2 z1), ih _ _ _ (by omega)]
        simp
      · rw [if_neg hc]
        show lexR r0 r1 r2 r3 (.inq r1) tok q (c :: (insW r1 r2 w ++ r1 :: t)) = _
        have h1 : c ≠ r1 := fun z => hc (.inl z)
        by_cases h2 : c = r2
        · have ha : alone r1 r2 w = true := by
            cases q : alone r1 r2 w with
            | true => rfl
            | false => exact absurd (.inr ⟨h2, q⟩) hc
          cases w with
          | nil => cases ha
          | cons b w =>
            have hb : ¬ b ∈ [r1, r2] := by
              rw [alone_cons] at ha
              simpa using ha
            simp only [List.mem_cons, List.not_mem_nil, or_false, not_or] at hb
            simp only [List.length_cons] at h
            rw [insW_cons, if_neg (by rintro (z | z); exact hb.1 z; exact hb.2 z.1), inq_cons, if_neg h1, if_pos ⟨h2, rfl⟩]
            show lexR r0 r1 r2 r3 (.esc r1) tok true (b :: (insW r1 r2 w ++ r1 :: t)) = _
            rw [esc_cons, if_neg (by omega), if_pos ⟨hb.2, hb.1⟩, ih _ _ _ (by omega), h2]
            simp
        · rw [inq_cons, if_neg h1, if_neg (fun z => h2 z.1), ih _ _ _ (by omega)]
          simp
theorem lex_first (ro : Ro r0 r1 r2 r3) (w : List Nat) : Lex r0 r1 r2 r3 ([r1] ++ insW r1 r2 w ++ [r1]) w := by
  refine ⟨true, .inl rfl, fun t => ?_⟩
  have d01 := ro.d01
  have d12 := ro.d12
  have e : [r1] ++ insW r1 r2 w ++ [r1] ++ t = r1 :: (insW r1 r2 w ++ r1 :: t) := by simp
  rw [e, sp_cons, if_neg (Ne.symm d01), if_neg d12, if_pos (by simp), lex_ins ro t w.length w _ _ (Nat.le_refl _), List.nil_append]
theorem lex_spell (ro : Ro r0 r1 r2 r3) (k : Int) (w : List Nat) : Lex r0 r1 r2 r3 (spell r0 r1 r2 r3 k w) w := by
  unfold spell
  split
  · rename_i h; exact lex_second ro w h.2
  · split
    · exact lex_first ro w
    · rename_i h; exact lex_bare ro w fun z => h (.inr z)
theorem lex_res {w : List Nat} {q : Bool} (h : q = true ∨ w ≠ []) : resD w q = .str w := by
  cases q
  · rcases h with h | h
    · cases h
    · exact if_neg h
  · rfl
theorem heard_glue (ro : Ro r0 r1 r2 r3) : ∀ (ss ws : List (List Nat)), All2 (Lex r0 r1 r2 r3) ss ws → Heard r0 r1 r2 r3 (glue [r0] ss) ws := by
  intro ss
  induction ss with
  | nil => intro ws h; cases h; exact .stop rfl
  | cons s ss ih =>
    intro ws h
    cases h with
    | cons h1 h2 =>
      obtain ⟨q, hq, hl⟩ := h1
      cases ss with
      | nil =>
        cases h2
        rw [glue_one]
        have := hl []
        rw [List.append_nil, wd_eof] at this
        exact .last this (lex_res hq)
      | cons s' l =>
        rw [glue_two]
        have := hl (r0 :: glue [r0] (s' :: l))
        rw [wd_cons, if_pos rfl] at this
        exact .more this (lex_res hq) ⟨s ++ [r0], by simp⟩ (ih _ h2)
end
end
end Mine
namespace Mine
noncomputable section
noncomputable def FrIs : List Env → List Addr → Prop
  | [], _ => True
  | env :: r, a :: as => env.scope.kind ≠ .module ∧ env.frame = some a ∧ FrIs r as
  | _ :: _, [] => False
noncomputable def InFr (k : Nat) (A : Around) (as : List Addr) : Prop := ∃ outer, A.frames = some outer ∧ outer.length = k ∧ FrIs outer as
theorem frIs_fun {base h : Heap} : ∀ {outer : List Env} {as : List Addr}, FrIs outer as → (∀ i a, i < outer.length → as[i]? = some a → ∃ o, base.get? a = none ∧ h.get? a = some o ∧ ∃ es n, o.data = .dict es n) → h.FunFrames base outer
  | [], _, _, _ => trivial
  | env :: r, [], h1, _ => h1.elim
  | env :: r, a :: as, ⟨h1, h2, h3⟩, k => by
    obtain ⟨o, q1, q2, es, n, q3⟩ := k 0 a (by simp) rfl
    exact ⟨h1, ⟨a, o, h2, q1, q2, fun vs e => by rw [q3] at e; cases e⟩, frIs_fun h3 fun i a' hi hget => k (i + 1) a' (by simpa using hi) (by simpa using hget)⟩
theorem frIs_mem : ∀ {outer : List Env} {as : List Addr} {b : Addr}, FrIs outer as → b ∈ outer.filterMap (·.frame) → ∃ i, i < outer.length ∧ as[i]? = some b
  | [], _, _, _, hm => by cases hm
  | env :: r, [], _, h1, _ => h1.elim
  | env :: r, a :: as, b, ⟨_, h2, h3⟩, hm => by
    rw [List.filterMap_cons, h2] at hm
    rcases List.mem_cons.mp hm with rfl | hm
    · exact ⟨0, by simp, rfl⟩
    · obtain ⟨i, hi, hg⟩ := frIs_mem h3 hm
      exact ⟨i + 1, by simpa using hi, by simpa using hg⟩
theorem frIs_pre : ∀ {outer : List Env} {as bs : List Addr}, FrIs outer as → as <+: bs → FrIs outer bs
  | [], _, _, _, _ => trivial
  | env :: r, [], _, h, _ => h.elim
  | env :: r, a :: as, bs, ⟨h1, h2, h3⟩, ⟨t, e⟩ => by
    subst e
    exact ⟨h1, h2, frIs_pre h3 ⟨t, rfl⟩⟩
/-- the objects are told anew -/
theorem Sim.renew {x : Fx} {σ : St} {s s' : Shared} {m : Str → Option Value} {news : List (Addr × Obj)} (S : Sim x σ s m news) (hns : s'.heap.Ns x.env.locals m) (keep : ∀ b o, x.h₀.get? b = some o → s'.heap.get? b = some o)
    (each : ∀ (i : Nat) (p : Addr × Obj) (ao : AO), news[i]? = some p → σ.objs[i]? = some ao → OM (ads news) p.2 ao → ∃ o', s'.heap.get? p.1 = some o' ∧ OM (ads news) o' ao) (hg : s'.gens = #[]) (ho : s'.os = s.os) : ∃ news', ads news' = ads news ∧ Sim x σ s' m news' := by
  have lenO := S.obj.length
  have key : ∀ (i : Nat) (p : Addr × Obj) (ao : AO), news[i]? = some p → σ.objs[i]? = some ao → ∃ o', s'.heap.get? p.1 = some o' ∧ OM (ads news) o' ao := fun i p ao hp ha => by
    have hi : i < σ.objs.length := by rw [← lenO]; exact (List.getElem?_eq_some_iff.mp hp).1
    obtain ⟨q, hq, r⟩ := S.obj.get ha
    rw [hp] at hq; cases hq
    exact each i p ao hp ha r
  have ea : ads (news.map fun p => (p.1, (s'.heap.get? p.1).getD default)) = ads news := by simp [ads, List.map_map, Function.comp_def]
  refine ⟨news.map fun p => (p.1, (s'.heap.get? p.1).getD default), ea, ?_⟩
  refine ⟨⟨hns, keep, S.F.above⟩, fun p hp => ?_, by rw [ea]; exact S.nd, by rw [ea]; exact S.loc, by rw [ea]; exact S.cel, ?_, hg, ho.trans S.os⟩
  · obtain ⟨p0, hp0, rfl⟩ := List.mem_map.mp hp
    obtain ⟨i, hi⟩ := List.getElem?_of_mem hp0
    have hlt : i < σ.objs.length := by rw [← lenO]; exact (List.getElem?_eq_some_iff.mp hi).1
    obtain ⟨o', e1, _⟩ := key i p0 _ hi (some_of_lt .junk hlt)
    have z := S.N p0 hp0
    exact ⟨by show s'.heap.get? p0.1 = some ((s'.heap.get? p0.1).getD default); rw [e1]; rfl, z.2.1, z.2.2⟩
  · rw [ea]
    refine all2_of_get (by simpa using lenO) fun i p ao h1 h2 => ?_
    rw [List.getElem?_map] at h1
    obtain ⟨p0, hp0, rfl⟩ := Option.map_eq_some_iff.mp h1
    obtain ⟨o', e1, e2⟩ := key i p0 ao hp0 h2
    show OM (ads news) ((s'.heap.get? p0.1).getD default) ao
    rw [e1]; exact e2
end
end Mine
namespace Mine
noncomputable section
noncomputable abbrev g22 : Cfg := cfg noSp (topSt 22)
noncomputable abbrev g23 : Cfg := cfg noSp (topSt 23)
noncomputable def emSt (os : List AO) : St := ⟨[(S "heap", .obj 0)], [], os⟩
noncomputable def emSt2 (v : Int) (os : List AO) : St := ⟨[(S "heap", .obj 0), (S "item", .int v)], [], os⟩
noncomputable abbrev A22 : Stmt := st1 (bodyOf (topSt 22)) 0
noncomputable abbrev A23 : Stmt := st1 (bodyOf (topSt 23)) 0
noncomputable def mcObj : Expr → Expr
  | .Call (.Attribute o _ _) _ _ _ => o
  | _ => default
noncomputable def mcAp : Expr → Pos
  | .Call (.Attribute _ _ p) _ _ _ => p
  | _ => default
noncomputable def mcPos : Expr → Pos
  | .Call _ _ _ p => p
  | _ => default
noncomputable def suVal : Expr → Expr
  | .Subscript v _ _ => v
  | _ => default
noncomputable def suSl : Expr → Expr
  | .Subscript _ v _ => v
  | _ => default
noncomputable def suPos : Expr → Pos
  | .Subscript _ _ p => p
  | _ => default
theorem pop_err {x : Fx} (hx : x.Ok) (hN : x.env.scope.names = g22.N) {s : Shared} {m : Str → Option Value} {news : List (Addr × Obj)} (S1 : Sim x (emSt [.ints []]) s m news) {Q : Value → Shared → Prop} {E : Value → Shared → Prop}
    (hE : ∀ s' m' news' h' tk ea, Sim x (emSt [.ints []]) s' m' news' → ads news <+: ads news' → Heap.NewExc s'.heap h' ea "IndexError" → E (.ref ea) { s' with heap := h', toks := tk }) : wpAny (model pw x.w) x.A (eval (asgE A22) x.env) Q E s := by
  have e : asgE A22 = .Call (.Attribute (mcObj (asgE A22)) (S "pop") (mcAp (asgE A22))) [] [] (mcPos (asgE A22)) := by kernel_rfl!
  rw [e]
  refine MethodCall_ (pl := _) ?_ (method_eq (by kernel_rfl!) (by kernel_rfl!) (by kernel_rfl!) (by kernel_rfl!))
  refine (good (c := g22) hx hN 40).ev (mcObj (asgE A22)) (emSt [.ints []]) news (fun d σ => d = .obj 0 ∧ σ = emSt [.ints []]) (ok_eq (t' := .ret (.obj 0) (emSt [.ints []])) (by kernel_rfl!) ⟨rfl, rfl⟩) s _ E m S1 ?_
  rintro v s' m' news' d σ' ⟨rfl, rfl⟩ S' pre r
  have hn : methOf (.obj 0) (S "pop") (emSt [.ints []]) ≠ .no := fun q => by cases q
  refine methOf_sound hx r S' hn ?_
  obtain ⟨c, ec, rfl⟩ := r
  obtain ⟨c', o, f1, f2, r', hm⟩ := S'.at (i := 0) (ao := .ints []) rfl
  rw [ec] at f2; cases f2
  obtain ⟨vs, nn, rfl, hi⟩ := r'
  cases hi
  show wpAny _ _ (callWith _ (.builtin "list.pop") [.ref c] (backTo _ (starEach [] _)) []) _ _ _
  refine callWith_method0 ?_
  exact call_meets PySem.F.slot_list_pop ⟨_, (S'.N _ hm).1, rfl⟩ PySem.F.entry_list_pop (PySem.F.args_list_pop_1 _) (AutoListH.list_pop_list_0 c #[] nn rfl) ⟨(S'.N _ hm).1, hx.room.handled, fun h' tk e he => hE s' m' news' h' tk e S' pre he⟩
theorem rep_err {x : Fx} (hx : x.Ok) (hN : x.env.scope.names = g23.N) {v0 : Int} {s : Shared} {m : Str → Option Value} {news : List (Addr × Obj)} (S1 : Sim x (emSt2 v0 [.ints []]) s m news) {Q : Value → Shared → Prop} {E : Value → Shared → Prop}
    (hE : ∀ s' m' news' h' tk ea, Sim x (emSt2 v0 [.ints []]) s' m' news' → ads news <+: ads news' → Heap.NewExc s'.heap h' ea "IndexError" → E (.ref ea) { s' with heap := h', toks := tk }) : wpAny (model pw x.w) x.A (eval (asgE A23) x.env) Q E s := by
  have e : asgE A23 = .Subscript (suVal (asgE A23)) (suSl (asgE A23)) (suPos (asgE A23)) := by kernel_rfl!
  have hs : notSlice (suSl (asgE A23)) = true := by kernel_rfl!
  have he : evalM g23 40 (suSl (asgE A23)) (emSt2 v0 [.ints []]) = .ret (.int 0) (emSt2 v0 [.ints []]) := by kernel_rfl!
  rw [e]
  refine Subscript_ ?_
  refine (good (c := g23) hx hN 40).ev (suVal (asgE A23)) (emSt2 v0 [.ints []]) news (fun d σ => d = .obj 0 ∧ σ = emSt2 v0 [.ints []]) (ok_eq (t' := .ret (.obj 0) (emSt2 v0 [.ints []])) (by kernel_rfl!) ⟨rfl, rfl⟩) s _ E m S1 ?_
  rintro v s1 m1 news1 d σ' ⟨rfl, rfl⟩ S2 pre r
  refine (good (c := g23) hx hN 40).ev (suSl (asgE A23)) (emSt2 v0 [.ints []]) news1 (fun d σ => d = .int 0 ∧ σ = emSt2 v0 [.ints []]) (ok_eq he ⟨rfl, rfl⟩) s1 _ E m1 S2 ?_
  rintro v' s' m' news' d σ' ⟨rfl, rfl⟩ S' pre' r'
  obtain ⟨t, rfl⟩ := r'
  obtain ⟨c, ec, rfl⟩ := r.mono pre'
  obtain ⟨c', o, f1, f2, r2, hm⟩ := S'.at (i := 0) (ao := .ints []) rfl
  rw [ec] at f2; cases f2
  obtain ⟨vs, nn, rfl, hi⟩ := r2
  cases hi
  have hL := isList_of (S'.N _ hm).1
  exact tail_any hL.typeIs slot_list_getitem.lookup (wpAny_getItem_list_out hx.room.handled hL (.inr (by simp)) (by decide) (by decide) fun h' tk ea hx' => hE s' m' news' h' tk ea S' (pre.trans pre') hx') (subscripted_plain hs _ _)
end
end Mine
namespace Mine
noncomputable section
theorem raise_leave {x : Fx} {w : World} {n : Nat} {fd : FuncData} {k : Nat} {A : Around} {hb base : Heap} {outer : List Env} {l ea : Addr} {o0 : Obj} {f : Addr} {s' : Shared} {m' : Str → Option Value} {news₁ news' : List (Addr × Obj)} {h' : Heap} {tk : Nat} {σ : St} {os : OsState} {R : Result → Shared → Prop} {Q : Value → Shared → Prop}
    (ex : Entered x w n fd k) (e1 : x.h₀ = hb) (e1' : x.os = os) (e3 : x.A = A.deeper x.env) (e7 : x.env = PyProof.Rows.envOf fd.qualname fd.scope x.env.locals f fd.code) (Kb : Below A base outer hb)
    (S' : Sim x σ s' m' news') (hσ : σ.objs = [.ints []]) (pre : ads [(l, o0)] <+: ads news₁) (pre' : ads news₁ <+: ads news') (he : Heap.NewExc s'.heap h' ea "IndexError")
    (post : ∀ s'' e o1, RaisedSN base hb outer e (.type "IndexError") [(l, o1)] s''.heap → OM [l] o1 (.ints []) → hb.UpToSlots s''.heap → s''.gens = #[] → s''.os = os → R (.error (.ref e)) s'') :
    wpAny (model pw x.w) x.A (leaving x.env (.ref ea)) (fun _ s'' => R (.error (.ref ea)) s'') Q { s' with heap := h', toks := tk } := by
  have hlen := S'.obj.length
  rw [hσ] at hlen
  obtain ⟨⟨l', o1⟩, rfl⟩ : ∃ p, news' = [p] := List.length_eq_one_iff.mp hlen
  have el : l' = l := by
    obtain ⟨t, e⟩ := pre.trans pre'
    exact (List.cons.inj e).1.symm
  subst el
  have hom := S'.obj
  rw [hσ] at hom
  have hom : OM [l'] o1 (.ints []) := by cases hom with | cons a _ => exact a
  have N := S'.N
  have F := S'.F
  rw [e1] at N F
  have hk : fd.scope.kind = .function := by rw [← ex.sc]; exact ex.ok.kind
  have key := leave_newS (M := model pw x.w) (s' := { s' with heap := h', toks := tk }) (a := f) (name := fd.qualname) (cd := fd.code) (Q := fun _ s'' => R (.error (.ref ea)) s'') (E := Q) (scope := fd.scope) Kb he F N (fun h'' r1 r2 r3 => post _ ea o1 r1 hom r3 S'.gens (S'.os.trans e1')) hk
  rw [← e7, ← e3] at key
  exact key
theorem pop_raises {w : World} {n : Nat} {A : Around} {s : Shared} {hb base : Heap} {l : Addr} {o0 : Obj} {outer : List Env} {R : Result → Shared → Prop} (rm : Room (n + 1) A) (hB : Base w hb) (O : Own hb s.heap [(l, o0)] [.ints []]) (hg : s.gens = #[]) (Kb : Below A base outer hb)
    (post : ∀ s'' e o1, RaisedSN base hb outer e (.type "IndexError") [(l, o1)] s''.heap → OM [l] o1 (.ints []) → hb.UpToSlots s''.heap → s''.gens = #[] → s''.os = s.os → R (.error (.ref e)) s'') : codeAny (model pw w) A (.call (.ref 740) ⟨[.ref l], []⟩) R s := by
  refine enter0 (oc := .type "function") (fd := F740) (body := bodyOf (topSt 22)) (names := [S "heap"]) (args := [.obj 0]) (os := [.ints []]) (G := fun _ _ => True) [] [] .nil (by kernel_rfl!) (by kernel_rfl!) (by kernel_rfl!) (by kernel_rfl!) (by kernel_rfl!) (fun s vals _ h => match vals, h with | [a], _ => .of_eq (by kernel_rfl!)) rm trivial hB O (.cons ⟨l, rfl, rfl⟩ .nil) hg ?_
  intro x h₁ tk m news₁ ex e1 e1' e2 e3 e4 e5 e6 hkeep S pre
  have hN : x.env.scope.names = g22.N := by rw [ex.sc]; kernel_rfl!
  have e : bodyOf (topSt 22) = .Assign [.Name (Mine.S "lastelt") (tgtPos A22)] (asgE A22) (stPos A22) :: (bodyOf (topSt 22)).drop 1 := by kernel_rfl!
  rw [e]
  refine wpAny_execs_cons (wpAny_Assign_Name ?_ ((swaps_eq ex.ok hN _ _ _ _).trans (by kernel_rfl!)))
  have e0 : entry F740.scope.names ([Mine.S "heap"].zip ([.obj 0] ++ [])) [.ints []] = emSt [.ints []] := by kernel_rfl!
  rw [e0] at S
  refine pop_err ex.ok hN S ?_
  intro s' m' news' h' tk' ea S' pre' he
  have e7 : x.env = PyProof.Rows.envOf F740.qualname F740.scope x.env.locals 740 F740.code := e6.trans (by
    generalize x.env.locals = L
    kernel_rfl!)
  exact raise_leave ex e1 e1' e3 e7 Kb S' rfl pre pre' he post
theorem rep_raises {w : World} {n : Nat} {A : Around} {s : Shared} {hb base : Heap} {l : Addr} {o0 : Obj} {outer : List Env} {R : Result → Shared → Prop} (v : Int) (tv : Tok) (rm : Room (n + 1) A) (hB : Base w hb) (O : Own hb s.heap [(l, o0)] [.ints []]) (hg : s.gens = #[]) (Kb : Below A base outer hb)
    (post : ∀ s'' e o1, RaisedSN base hb outer e (.type "IndexError") [(l, o1)] s''.heap → OM [l] o1 (.ints []) → hb.UpToSlots s''.heap → s''.gens = #[] → s''.os = s.os → R (.error (.ref e)) s'') : codeAny (model pw w) A (.call (.ref 747) ⟨[.ref l, .int v tv], []⟩) R s := by
  refine enter0 (oc := .type "function") (fd := F747) (body := bodyOf (topSt 23)) (names := [S "heap", S "item"]) (args := [.obj 0, .int v]) (os := [.ints []]) (G := fun _ _ => True) [] [] .nil (by kernel_rfl!) (by kernel_rfl!) (by kernel_rfl!) (by kernel_rfl!) (by kernel_rfl!) (fun s vals _ h => match vals, h with | [a, b], _ => .of_eq (by kernel_rfl!)) rm trivial hB O (.cons ⟨l, rfl, rfl⟩ (.cons ⟨tv, rfl⟩ .nil)) hg ?_
  intro x h₁ tk m news₁ ex e1 e1' e2 e3 e4 e5 e6 hkeep S pre
  have hN : x.env.scope.names = g23.N := by rw [ex.sc]; kernel_rfl!
  have e : bodyOf (topSt 23) = .Assign [.Name (Mine.S "returnitem") (tgtPos A23)] (asgE A23) (stPos A23) :: (bodyOf (topSt 23)).drop 1 := by kernel_rfl!
  rw [e]
  refine wpAny_execs_cons (wpAny_Assign_Name ?_ ((swaps_eq ex.ok hN _ _ _ _).trans (by kernel_rfl!)))
  have e0 : entry F747.scope.names ([Mine.S "heap", Mine.S "item"].zip ([.obj 0, .int v] ++ [])) [.ints []] = emSt2 v [.ints []] := by kernel_rfl!
  rw [e0] at S
  refine rep_err ex.ok hN S ?_
  intro s' m' news' h' tk' ea S' pre' he
  have e7 : x.env = PyProof.Rows.envOf F747.qualname F747.scope x.env.locals 747 F747.code := e6.trans (by
    generalize x.env.locals = L
    kernel_rfl!)
  exact raise_leave ex e1 e1' e3 e7 Kb S' rfl pre pre' he post
end
end Mine
namespace Mine
noncomputable section
theorem idx_none (P : Params) : nsIn (K P) mainGlobals (S "IndexError") = some none := by kernel_rfl
theorem caught {x : Fx} (hx : x.Ok) {outer : List Env} (hfr : x.A.frames = some (x.env :: outer)) (hf : x.env.frame = some x.env.locals) (hk : x.env.scope.names.lookup (S "IndexError") = some .globalImplicit) {m : Str → Option Value} {hb : Heap} {l e : Addr} {o1 : Obj} {s'' : Shared}
    (Fhb : hb.Ns x.env.locals m) (keep : ∀ b o, x.h₀.get? b = some o → hb.get? b = some o ∧ b ∉ (x.env :: outer).filterMap (·.frame)) (R : RaisedSN x.h₀ hb (x.env :: outer) e (.type "IndexError") [(l, o1)] s''.heap) (U : hb.UpToSlots s''.heap)
    {Q : Flow → Shared → Prop} {E : Value → Shared → Prop} {np pos : Pos} {b₀ : Stmt} {suite : List Stmt} {rest : List ExceptHandler}
    (k : ∀ h₆ E', (∀ b o, hb.get? b = some o → b ∉ (x.env :: outer).filterMap (·.frame) → h₆.get? b = some o) → h₆.get? l = some o1 → hb.UpToSlots h₆ → wpAny (model pw x.w) (x.A.mark (some (.ref e))) (execs (b₀ :: suite) x.env) Q E' { s'' with heap := h₆ }) :
    wpAny (model pw x.w) x.A (noteFrame (.ref e) x.env) (fun _ s₂ => wpAny (model pw x.w) x.A (setFlight (.ref e) none) (fun _ s₃ => wpAny (model pw x.w) x.A (handleBy (.ref e) x.env (.ExceptHandler (some (.Name (S "IndexError") np)) none (b₀ :: suite) pos :: rest)) Q E s₃) E s₂) E s'' := by
  obtain ⟨B, a0, hB, hBG, hl, hfl⟩ := R
  refine wpAny_looks_onW hfr hf hfl fun h₄ hheld₄ hsm₄ => ?_
  refine wpAny_landsW hheld₄ fun h₅ hheld hsm₅' => ?_
  have hsm₅ := hsm₄.trans hsm₅'
  obtain ⟨ob, hob, hobc⟩ := hheld.there
  have keep5 : ∀ b o, x.h₀.get? b = some o → h₅.get? b = some o := fun b o e => hheld.1 b o (hBG b o (keep b o e).1 (keep b o e).2)
  refine wpAny_handleBy_builtin (X := "IndexError") (T := "IndexError") (b := true) PySem.F.isExc_IndexError PySem.F.notTuple_IndexError (by rw [isSubtype_type]; kernel_rfl) ?_
  obtain ⟨mg, hg⟩ := hx.base.glob
  obtain ⟨mb, hb', hbo⟩ := hx.base.blt
  have hg' : h₅.Ns x.env.globals mg := by rw [hx.glo]; exact hg.keeps keep5
  have hb2 : h₅.Ns x.env.builtins mb := by rw [hx.blt]; exact hb'.keeps keep5
  refine Calls.Name_function_global hx.kind hk (Calls.loadGlobal_builtin (s := { s'' with heap := h₅ }) hg' (mg_none_of hx.base.kin hg (idx_none _)) hb2 ((hbo (S "IndexError") (by decide +kernel)).trans PyProof.Rows.Boot.«IndexError») ⟨rfl, ⟨ob, hob, hobc⟩, ?_⟩) (by decide +kernel)
  rw [if_pos rfl]
  refine lands_againW hheld fun h₆ hfl₆ hsm₆ => ?_
  refine k h₆ _ (fun b o q nm => hfl₆.1 b o (hBG b o q nm)) (hfl₆.1 _ _ (hl _ (.head _)).1) ((U.trans hsm₅).trans hsm₆)
end
end Mine
namespace Mine
noncomputable section
noncomputable def tBody : Stmt → List Stmt
  | .Try b _ _ _ _ => b
  | _ => []
noncomputable def tPos : Stmt → Pos
  | .Try _ _ _ _ p => p
  | _ => default
noncomputable def tH : Stmt → ExceptHandler
  | .Try _ (h :: _) _ _ _ => h
  | _ => .ExceptHandler none none [] default
noncomputable def hNp : ExceptHandler → Pos
  | .ExceptHandler (some (.Name _ p)) _ _ _ => p
  | _ => default
noncomputable def hSt : ExceptHandler → Stmt
  | .ExceptHandler _ _ (s :: _) _ => s
  | _ => default
noncomputable def hPos : ExceptHandler → Pos
  | .ExceptHandler _ _ _ p => p
noncomputable def kPos : Expr → Pos
  | .Constant _ _ p => p
  | _ => default
noncomputable def iTest : Stmt → Expr
  | .If t _ _ _ => t
  | _ => default
noncomputable def iBody : Stmt → List Stmt
  | .If _ b _ _ => b
  | _ => []
noncomputable def iPos : Stmt → Pos
  | .If _ _ _ p => p
  | _ => default
noncomputable def caFn : Expr → Expr
  | .Call f _ _ _ => f
  | _ => default
noncomputable def caArgs : Expr → List Expr
  | .Call _ a _ _ => a
  | _ => []
noncomputable def spCa : Specs := fun a args os => match Nat.beq a 740, Nat.beq a 754, Nat.beq a 747, Nat.beq a 733, args, os with
  | true, _, _, _, [.obj 0], [.ints xs] => .need (0 < xs.length ∧ xs.length ≤ sizeLine) (.done (.int (hPop xs).1) [.ints (hPop xs).2])
  | _, true, _, _, [.obj 0, .int v], [.ints xs] => .need (xs.length ≤ sizeLine) (.done (.int (hPP xs v).1) [.ints (hPP xs v).2])
  | _, _, true, _, [.obj 0, .int v], [.ints xs] => .need (0 < xs.length ∧ xs.length ≤ sizeLine) (.done (.int (hRep xs v).1) [.ints (hRep xs v).2])
  | _, _, _, true, [.obj 0, .int v], [.ints xs] => .need (xs.length < sizeLine) (.done .none [.ints (hPush xs v)])
  | _, _, _, _, _, _ => .bad
noncomputable abbrev B36 : List Stmt := bodyOf (topSt 36)
noncomputable abbrev T36 : Stmt := st1 B36 0
noncomputable abbrev I36 (i : Nat) : Stmt := st1 (tBody T36) i
noncomputable abbrev g36 : Cfg := cfg spCa (topSt 36)
noncomputable def caSt (o1 o2 : Obj) (xs : List Int) (a v : Int) : St := ⟨[(S "heap", .obj 2), (S "act", .int a), (S "value", .int v)], [], [.frame o1, .frame o2, .ints xs]⟩
noncomputable def calledD (xs : List Int) (a v : Int) : D := if a = 2 then (match xs with | [] => .str emptyU | _ :: _ => .int (hPop xs).1) else if a = 4 then (match xs with | [] => .str emptyU | _ :: _ => .int (hRep xs v).1) else if a = 3 then .int (hPP xs v).1 else .none
noncomputable def calledL (xs : List Int) (a v : Int) : List Int := if a = 2 then (match xs with | [] => [] | _ :: _ => (hPop xs).2) else if a = 4 then (match xs with | [] => [] | _ :: _ => (hRep xs v).2) else if a = 3 then (hPP xs v).2 else hPush xs v
section
variable {x : Fx} {c : Cfg}
theorem ExOk.tryN {body : List Stmt} {h₀ : ExceptHandler} {hs : List ExceptHandler} {pos : Pos} {σ : St} {P : Fl → St → Prop} (hb : ExOk x body σ P) : ExOk x [.Try body (h₀ :: hs) [] [] pos] σ P := by
  intro s Q E m news S a0 post
  refine wpAny_execs_cons (wpAny_Try_except ?_)
  refine hb s _ _ m news S a0 fun f s' m' news' f' σ' p S' pre r => ?_
  cases f' with
  | next => cases f <;> first | exact wpAny_execs_nil (wpAny_execs_nil (post _ _ m' news' _ _ p S' pre r)) | exact r.elim
  | brk => cases f <;> first | exact post _ _ m' news' _ _ p S' pre r | exact r.elim
  | cont => cases f <;> first | exact post _ _ m' news' _ _ p S' pre r | exact r.elim
  | ret d => cases f <;> first | exact post _ _ m' news' _ _ p S' pre r | exact r.elim
theorem if_yes (hx : x.Ok) (hN : x.env.scope.names = c.N) {test : Expr} {body orelse : List Stmt} {pos : Pos} {σ : St} {cnd : Bool} (e : truthM c 40 test σ = .ret (.dyn cnd) σ) (hc : cnd = true) {s : Shared} {Q : Flow → Shared → Prop} {E : Value → Shared → Prop} {m : Str → Option Value} {news : List (Addr × Obj)} (S : Sim x σ s m news)
    (k : ∀ s' m' news', Sim x σ s' m' news' → ads news <+: ads news' → wpAny (model pw x.w) x.A (execs body x.env) Q E s') : wpAny (model pw x.w) x.A (exec (.If test body orelse pos) x.env) Q E s := by
  refine wpAny_If ((good hx hN 40).tr test σ news (fun b σ' => b.val = true ∧ σ' = σ) (ok_eq e ⟨hc, rfl⟩) s _ E m S ?_)
  rintro b s' m' news' b' σ' ⟨h, rfl⟩ S' pre r
  have r : b = b'.val := r
  rw [r, h, if_pos rfl]
  exact k s' m' news' S' pre
theorem if_no (hx : x.Ok) (hN : x.env.scope.names = c.N) {test : Expr} {body : List Stmt} {pos : Pos} {σ : St} {cnd : Bool} (e : truthM c 40 test σ = .ret (.dyn cnd) σ) (hc : cnd = false) {s : Shared} {Q : Flow → Shared → Prop} {E : Value → Shared → Prop} {m : Str → Option Value} {news : List (Addr × Obj)} (S : Sim x σ s m news)
    (k : ∀ s' m' news', Sim x σ s' m' news' → ads news <+: ads news' → Q .next s') : wpAny (model pw x.w) x.A (exec (.If test body [] pos) x.env) Q E s := by
  refine wpAny_If ((good hx hN 40).tr test σ news (fun b σ' => b.val = false ∧ σ' = σ) (ok_eq e ⟨hc, rfl⟩) s _ E m S ?_)
  rintro b s' m' news' b' σ' ⟨h, rfl⟩ S' pre r
  have r : b = b'.val := r
  rw [r, h, if_neg (by simp)]
  exact wpAny_execs_nil (k s' m' news' S' pre)
theorem call_top (hx : x.Ok) (hN : x.env.scope.names = c.N) {fn e : Expr} {rest : List Expr} {pos : Pos} {σ : St} {f : Addr} {ds : List D} (ef : evalM c 40 fn σ = .ret (.top f) σ) (ea : evalsM c 40 (e :: rest) σ = .ret ds σ) (hns : noStars (e :: rest) = true) (hf : memN callTab f = true)
    (hat : ∀ o n p, fn ≠ .Attribute o n p) {s : Shared} {Q : Value → Shared → Prop} {E : Value → Shared → Prop} {m : Str → Option Value} {news : List (Addr × Obj)} (S : Sim x σ s m news)
    (k : ∀ s' m' news' vals, Sim x σ s' m' news' → ads news <+: ads news' → All2 (Rel (ads news')) vals ds → wpAny (model pw x.w) x.A (call (.ref f) vals) Q E s') : wpAny (model pw x.w) x.A (eval (.Call fn (e :: rest) [] pos) x.env) Q E s := by
  obtain ⟨hs1, hs2⟩ := Bool.and_eq_true_iff.mp hns
  refine Call_ ?_ (call_eq hat)
  refine (good hx hN 40).ev fn σ news (fun d σ' => d = .top f ∧ σ' = σ) (ok_eq ef ⟨rfl, rfl⟩) s _ E m S ?_
  rintro v s1 m1 news1 d σ' ⟨rfl, rfl⟩ S1 pre r
  cases r
  have hk := List.all_eq_true.mp (calls_ok x.w.params) f (memN_iff.mp hf)
  refine callWith_K hx.base.kin hk ?_ (star_cons hs1) (back_plain hs2)
  refine (good hx hN 40).es (e :: rest) pos σ' news1 hns (fun d σ2 => d = ds ∧ σ2 = σ') (ok_eq ea ⟨rfl, rfl⟩) s1 _ E m1 S1 ?_
  rintro vs s2 m2 news2 d2 σ2 ⟨rfl, rfl⟩ S2 pre2 r2
  exact ⟨hx.base.kin.keeps S2.F.keep, k s2 m2 news2 vs S2 (pre.trans pre2) r2⟩
end
end
end Mine
namespace Mine
noncomputable section
noncomputable def Raises (w : World) (n : Nat) (f : Addr) (rest : List Value) : Prop := ∀ (A : Around) (s : Shared) (hb base : Heap) (l : Addr) (o0 : Obj) (outer : List Env) (R : Result → Shared → Prop), Room (n + 1) A → Base w hb → Own hb s.heap [(l, o0)] [.ints []] → s.gens = #[] → Below A base outer hb →
  (∀ s'' e o1, RaisedSN base hb outer e (.type "IndexError") [(l, o1)] s''.heap → OM [l] o1 (.ints []) → hb.UpToSlots s''.heap → s''.gens = #[] → s''.os = s.os → R (.error (.ref e)) s'') → codeAny (model pw w) A (.call (.ref f) ⟨.ref l :: rest, []⟩) R s
theorem raised_caught {x : Fx} (hx : x.Ok) {n : Nat} (hn : x.n = n + 3) (hN : x.env.scope.names = g36.N) {outer : List Env} (hfr : x.A.frames = some (x.env :: outer)) (hf : x.env.frame = some x.env.locals) (hfi : FrIs outer x.a0) (hlen : outer.length = 2)
    {o1 o2 : Obj} {a v : Int} {s : Shared} {m : Str → Option Value} {news : List (Addr × Obj)} (S : Sim x (caSt o1 o2 [] a v) s m news) (a0 : x.a0 <+: ads news) {l : Addr} (hl2 : (ads news)[2]? = some l) {f : Addr} {rest : List Value} (hr : Raises x.w (n + 2) f rest)
    {Qc : Value → Shared → Prop} {Q : Flow → Shared → Prop} {E : Value → Shared → Prop} (post : ∀ t s' news', ads news' = ads news → Sim x (caSt o1 o2 [] a v) s' m news' → Q (.ret (.str ⟨emptyU.toArray⟩ t)) s') :
    wpAny (model pw x.w) x.A (call (.ref f) (.ref l :: rest)) Qc (fun e s₁ => wpAny (model pw x.w) x.A (noteFrame e x.env) (fun _ s₂ => wpAny (model pw x.w) x.A (setFlight e none) (fun _ s₃ => wpAny (model pw x.w) x.A (handleBy e x.env [tH T36]) Q E s₃) E s₂) E s₁) s := by
  have lenO : news.length = 3 := S.obj.length
  obtain ⟨⟨l', o0⟩, hp⟩ : ∃ p, news[2]? = some p := ⟨_, List.getElem?_eq_getElem (by omega)⟩
  have el : l' = l := by rw [List.getElem?_map, hp] at hl2; exact Option.some.inj hl2
  subst el
  have hsub : subN news [2] = [(l', o0)] := by
    show [news.getD 2 (0, default)] = _
    rw [getD_of hp]
  have hl : ∀ i ∈ [2], i < (caSt o1 o2 [] a v).objs.length := fun i hi => by rw [List.mem_singleton.mp hi]; show 2 < 3; decide
  have O := call_own hx S (ids := [2]) (by simp) hl (fun i hi j hj => by rw [List.mem_singleton.mp hi] at hj; cases hj)
  have hbase := base_hide hx S hl
  rw [hsub] at O hbase
  have hbase : ∀ b o, x.h₀.get? b = some o → (hideAll s.heap [l']).get? b = some o := hbase
  have O : Own (hideAll s.heap [l']) s.heap [(l', o0)] [.ints []] := O
  have zl := S.N _ (List.mem_of_getElem? hp)
  have ns : (hideAll s.heap [l']).Ns x.env.locals m := by
    obtain ⟨o, es, ep, ho, r⟩ := S.F.ns
    exact ⟨o, es, ep, hideAll_get _ ho (fun q => zl.2.1 (List.mem_singleton.mp q).symm), r⟩
  have hL0 : x.h₀.get? x.env.locals = none := by
    cases q : x.h₀.get? x.env.locals with
    | none => rfl
    | some o => exact absurd (Heap.lt_size q) (Nat.not_lt.mpr S.F.above)
  have hfi' := frIs_pre hfi a0
  have fr1 : ∀ i p ao, news[i]? = some p → (caSt o1 o2 [] a v).objs[i]? = some ao → i < 2 → (hideAll s.heap [l']).get? p.1 = some p.2 ∧ x.h₀.get? p.1 = none ∧ ∃ o₀, ao = .frame o₀ ∧ OM (ads news) p.2 (.frame o₀) := fun i p ao h1 h2 hi => by
    have z := S.N p (List.mem_of_getElem? h1)
    have hne : p.1 ≠ l' := fun e => by
      have g1 : (ads news)[i]? = some l' := by rw [List.getElem?_map, h1, ← e]; rfl
      have := (List.getElem?_inj (List.getElem?_eq_some_iff.mp g1).1 S.nd).mp (g1.trans hl2.symm)
      omega
    obtain ⟨q, hq, r⟩ := S.obj.get h2
    rw [h1] at hq; cases hq
    refine ⟨hideAll_get _ z.1 (fun q => hne (List.mem_singleton.mp q)), z.2.2, ?_⟩
    match i, hi, h2 with
    | 0, _, h2 => cases h2; exact ⟨_, rfl, r⟩
    | 1, _, h2 => cases h2; exact ⟨_, rfl, r⟩
  have Kb : Below x.A x.h₀ (x.env :: outer) (hideAll s.heap [l']) := by
    refine ⟨hfr, hbase, Heap.FunFrames.cons (by rw [hx.kind]; decide) hf ns hL0 (frIs_fun hfi' fun i a hi hg => ?_)⟩
    rw [hlen] at hi
    rw [List.getElem?_map] at hg
    obtain ⟨p, hp', rfl⟩ := Option.map_eq_some_iff.mp hg
    obtain ⟨q1, q2, o₀, e, ⟨sl, e1⟩, es, n, e2⟩ := fr1 i p _ hp' (some_of_lt .junk (by show i < 3; omega)) hi
    exact ⟨p.2, q2, q1, es, n, by rw [e1]; exact e2⟩
  have keep : ∀ b o, x.h₀.get? b = some o → (hideAll s.heap [l']).get? b = some o ∧ b ∉ (x.env :: outer).filterMap (·.frame) := fun b o e => by
    refine ⟨hbase b o e, fun hm => ?_⟩
    rw [List.filterMap_cons, hf] at hm
    rcases List.mem_cons.mp hm with rfl | hm
    · rw [hL0] at e; cases e
    · obtain ⟨i, hi, hg⟩ := frIs_mem hfi' hm
      rw [List.getElem?_map] at hg
      obtain ⟨p, hp', e'⟩ := Option.map_eq_some_iff.mp hg
      have := (S.N p (List.mem_of_getElem? hp')).2.2
      have e' : p.1 = b := e'
      rw [e', e] at this; cases this
  have rm : Room (n + 2 + 1) x.A := by have := hx.room; rw [hn] at this; exact this
  refine wpAny_call (hr x.A s _ x.h₀ l' o0 (x.env :: outer) _ rm (hx.base.keeps hbase) O S.gens Kb ?_)
  intro s'' e o1' R hom U hg ho
  have eH : tH T36 = .ExceptHandler (some (.Name (Mine.S "IndexError") (hNp (tH T36)))) none [.Return (some (.Constant (.str (Mine.S "empty")) 0 (kPos (retE (hSt (tH T36)))))) (stPos (hSt (tH T36)))] (hPos (tH T36)) := by kernel_rfl!
  rw [eH]
  refine caught hx hfr hf (by rw [hN]; exact lk_lookup (by kernel_rfl!)) ns keep R U fun h₆ E' k1 k2 k3 => ?_
  refine wpAny_execs_cons (wpAny_Return_some (wpAny_Constant_str ?_))
  have keep6 : ∀ b o, x.h₀.get? b = some o → h₆.get? b = some o := fun b o e => k1 b o (keep b o e).1 (keep b o e).2
  obtain ⟨news', ea, S'⟩ := S.renew (s' := { s'' with heap := h₆, toks := s''.toks + 1 }) (k3.ns ns) keep6 (fun i p ao h1 h2 h3 => by
    have hi : i < 3 := by rw [← lenO]; exact (List.getElem?_eq_some_iff.mp h1).1
    by_cases h : i < 2
    · obtain ⟨q1, q2, o₀, rfl, ⟨sl, e1⟩, es, n, e2⟩ := fr1 i p ao h1 h2 h
      obtain ⟨sl', e3⟩ := k3 p.1 p.2 q1 (fun vs q => by rw [e1] at q; have q : o₀.data = .fields vs := q; rw [e2] at q; cases q)
      exact ⟨_, e3, ⟨sl', by rw [e1]⟩, es, n, e2⟩
    · obtain rfl : i = 2 := by omega
      rw [hp] at h1; cases h1; cases h2
      exact ⟨o1', k2, hom⟩) hg ho
  exact post _ _ news' ea S'
end
end Mine
namespace Mine
noncomputable section
noncomputable def rtPos : Stmt → Pos
  | .Return _ p => p
  | _ => default
noncomputable def clPos : Expr → Pos
  | .Call _ _ _ p => p
  | _ => default
noncomputable def hdE : List Expr → Expr
  | e :: _ => e
  | _ => default
noncomputable abbrev X36 (i : Nat) : Expr := retE (st1 (iBody (I36 i)) 0)
theorem pop_R (w : World) (n : Nat) : Raises w n 740 [] := fun A s hb base l o0 outer R rm hB O hg Kb post => pop_raises rm hB O hg Kb post
theorem rep_R (w : World) (n : Nat) (v : Int) (t : Tok) : Raises w n 747 [.int v t] := fun A s hb base l o0 outer R rm hB O hg Kb post => rep_raises v t rm hB O hg Kb post
theorem eB36 : tBody T36 = [.If (iTest (I36 0)) (iBody (I36 0)) [] (iPos (I36 0)), .If (iTest (I36 1)) (iBody (I36 1)) [] (iPos (I36 1)), .If (iTest (I36 2)) (iBody (I36 2)) [] (iPos (I36 2))] := by kernel_rfl
theorem eT36 : [T36] = [.Try (tBody T36) [tH T36] [] [] (tPos T36)] := by kernel_rfl
theorem eI36_0 : iBody (I36 0) = [.Return (some (.Call (caFn (X36 0)) (hdE (caArgs (X36 0)) :: (caArgs (X36 0)).drop 1) [] (clPos (X36 0)))) (rtPos (st1 (iBody (I36 0)) 0))] := by kernel_rfl
theorem eI36_2 : iBody (I36 2) = [.Return (some (.Call (caFn (X36 2)) (hdE (caArgs (X36 2)) :: (caArgs (X36 2)).drop 1) [] (clPos (X36 2)))) (rtPos (st1 (iBody (I36 2)) 0))] := by kernel_rfl
noncomputable def notAttr : Expr → Bool
  | .Attribute .. => false
  | _ => true
theorem notAttr_ne {fn : Expr} (h : notAttr fn = true) : ∀ o n p, fn ≠ .Attribute o n p := fun o n p e => by subst e; cases h
theorem called_empty2 {x : Fx} (hx : x.Ok) {n : Nat} (hn : x.n = n + 3) (hN : x.env.scope.names = g36.N) {outer : List Env} (hfr : x.A.frames = some (x.env :: outer)) (hf : x.env.frame = some x.env.locals) (hfi : FrIs outer x.a0) (hlen : outer.length = 2) (o1 o2 : Obj) (v : Int) :
    ExOk x [T36] (caSt o1 o2 [] 2 v) (fun f σ' => f = .ret (.str emptyU) ∧ σ' = caSt o1 o2 [] 2 v) := by
  intro s Q E m news S a0 post
  rw [eT36]
  refine wpAny_execs_cons (wpAny_Try_except ?_)
  rw [eB36]
  refine wpAny_execs_cons (if_yes hx hN (cnd := decide ((2 : Int) = 2)) (by kernel_rfl!) rfl S fun s1 m1 news1 S1 pre1 => ?_)
  rw [eI36_0]
  refine wpAny_execs_cons (wpAny_Return_some (call_top hx hN (f := 740) (ds := [.obj 2]) (by kernel_rfl!) (by kernel_rfl!) (by kernel_rfl!) (by kernel_rfl!) (notAttr_ne (by kernel_rfl!)) S1 fun s2 m2 news2 vals S2 pre2 ra => ?_))
  obtain ⟨v1, rfl, l, hl, rfl⟩ := all2_1 ra
  refine raised_caught hx hn hN hfr hf hfi hlen S2 ((a0.trans pre1).trans pre2) hl (pop_R _ _) (Q := _) fun t s' news' ea S' => ?_
  exact post _ s' m2 news' (.ret (.str emptyU)) _ ⟨rfl, rfl⟩ S' (by rw [ea]; exact (a0.trans pre1).trans pre2) ⟨t, rfl⟩
theorem called_empty4 {x : Fx} (hx : x.Ok) {n : Nat} (hn : x.n = n + 3) (hN : x.env.scope.names = g36.N) {outer : List Env} (hfr : x.A.frames = some (x.env :: outer)) (hf : x.env.frame = some x.env.locals) (hfi : FrIs outer x.a0) (hlen : outer.length = 2) (o1 o2 : Obj) (v : Int) :
    ExOk x [T36] (caSt o1 o2 [] 4 v) (fun f σ' => f = .ret (.str emptyU) ∧ σ' = caSt o1 o2 [] 4 v) := by
  intro s Q E m news S a0 post
  rw [eT36]
  refine wpAny_execs_cons (wpAny_Try_except ?_)
  rw [eB36]
  refine wpAny_execs_cons (if_no hx hN (cnd := decide ((4 : Int) = 2)) (by kernel_rfl!) rfl S fun s1 m1 news1 S1 pre1 => ?_)
  refine wpAny_execs_cons (if_no hx hN (cnd := decide ((4 : Int) = 3)) (by kernel_rfl!) rfl S1 fun s1' m1' news1' S1' pre1' => ?_)
  refine wpAny_execs_cons (if_yes hx hN (cnd := decide ((4 : Int) = 4)) (by kernel_rfl!) rfl S1' fun s1'' m1'' news1'' S1'' pre1'' => ?_)
  rw [eI36_2]
  have pp := ((a0.trans pre1).trans pre1').trans pre1''
  refine wpAny_execs_cons (wpAny_Return_some (call_top hx hN (f := 747) (ds := [.obj 2, .int v]) (by kernel_rfl!) (by kernel_rfl!) (by kernel_rfl!) (by kernel_rfl!) (notAttr_ne (by kernel_rfl!)) S1'' fun s2 m2 news2 vals S2 pre2 ra => ?_))
  obtain ⟨v1, v2, rfl, ⟨l, hl, rfl⟩, t2, rfl⟩ := all2_2 ra
  refine raised_caught hx hn hN hfr hf hfi hlen S2 (pp.trans pre2) hl (rep_R _ _ v t2) (Q := _) fun t s' news' ea S' => ?_
  exact post _ s' m2 news' (.ret (.str emptyU)) _ ⟨rfl, rfl⟩ S' (by rw [ea]; exact pp.trans pre2) ⟨t, rfl⟩
theorem called_ok (w : World) (n : Nat) (o1 o2 : Obj) (xs : List Int) (a v : Int) (ha : 0 ≤ a ∧ a < 5) (hl : xs.length < 60) : CallOkG w (n + 3) 816 [.obj 2, .int a, .int v] [.frame o1, .frame o2, .ints xs] (InFr 2) fun d o => d = calledD xs a v ∧ o = [.frame o1, .frame o2, .ints (calledL xs a v)] := by
  have hsz : 1000000 * 4 ≤ sizeLine := by decide
  refine enterG (oc := .type "function") (fd := F816) (body := [T36] ++ [st1 B36 1]) (names := [S "heap", S "act", S "value"]) [] [] .nil (by kernel_rfl!) (by kernel_rfl!) (by kernel_rfl!) (by kernel_rfl!) (by kernel_rfl!) (fun s vals _ h => match vals, h with | [a, b, c], _ => .of_eq (by kernel_rfl!)) fun x hx fr => ?_
  have hN : x.env.scope.names = g36.N := by rw [hx.sc]; kernel_rfl!
  obtain ⟨⟨A, eA, outer, h1, h2, h3⟩, hf⟩ := fr
  have hfr : x.A.frames = some (x.env :: outer) := by rw [eA]; exact Around.frames_deeper h1
  have e0 : entry F816.scope.names ([S "heap", S "act", S "value"].zip ([.obj 2, .int a, .int v] ++ [])) [.frame o1, .frame o2, .ints xs] = caSt o1 o2 xs a v := by kernel_rfl!
  rw [e0]
  obtain rfl | rfl | rfl | rfl | rfl : a = 0 ∨ a = 1 ∨ a = 2 ∨ a = 3 ∨ a = 4 := by omega
  · refine ExOk.app ?_
    rw [eT36]
    refine ExOk.tryN (ExOk.tree (c := g36) hx.ok hN (n := 40) (ok_path (ws := [false, false, false]) (t' := .need (decide ((0 : Int) = (2 : Int)) = false) ( .need (decide ((0 : Int) = (3 : Int)) = false) ( .need (decide ((0 : Int) = (4 : Int)) = false) ( .ret .next ⟨[(S "heap", (.obj 2)), (S "act", (.int ((0 : Int)))), (S "value", (.int (v)))], [], [(AO.frame o1), (AO.frame o2), (.ints (xs))]⟩)))) (by kernel_rfl!) (ok_need rfl (ok_need rfl (ok_need rfl ?_)))))
    show ExOk x _ _ _
    refine ExOk.tree (c := g36) hx.ok hN (n := 40) (ok_path (ws := []) (t' := (fun (a : Int) => (.need (xs.length < sizeLine) ( .call 733 [(.obj 0), (.int (v))] [(.ints (xs))] .none [(.ints (hPush xs v))] ( .ret (.ret .none) ⟨[(S "heap", (.obj 2)), (S "act", (.int (a))), (S "value", (.int (v)))], [], [(AO.frame o1), (AO.frame o2), (.ints (hPush xs v))]⟩)) : T Fl)) 0) (by kernel_rfl!) ?_)
    exact ok_need (by omega) ⟨⟨n + 2, hx.n, hPush_ok _ (n + 1) xs v (by omega)⟩, [0, 1, 2], by rfl, by rfl, rfl, rfl⟩
  · refine ExOk.app ?_
    rw [eT36]
    refine ExOk.tryN (ExOk.tree (c := g36) hx.ok hN (n := 40) (ok_path (ws := [false, false, false]) (t' := .need (decide ((1 : Int) = (2 : Int)) = false) ( .need (decide ((1 : Int) = (3 : Int)) = false) ( .need (decide ((1 : Int) = (4 : Int)) = false) ( .ret .next ⟨[(S "heap", (.obj 2)), (S "act", (.int ((1 : Int)))), (S "value", (.int (v)))], [], [(AO.frame o1), (AO.frame o2), (.ints (xs))]⟩)))) (by kernel_rfl!) (ok_need rfl (ok_need rfl (ok_need rfl ?_)))))
    show ExOk x _ _ _
    refine ExOk.tree (c := g36) hx.ok hN (n := 40) (ok_path (ws := []) (t' := (fun (a : Int) => (.need (xs.length < sizeLine) ( .call 733 [(.obj 0), (.int (v))] [(.ints (xs))] .none [(.ints (hPush xs v))] ( .ret (.ret .none) ⟨[(S "heap", (.obj 2)), (S "act", (.int (a))), (S "value", (.int (v)))], [], [(AO.frame o1), (AO.frame o2), (.ints (hPush xs v))]⟩)) : T Fl)) 1) (by kernel_rfl!) ?_)
    exact ok_need (by omega) ⟨⟨n + 2, hx.n, hPush_ok _ (n + 1) xs v (by omega)⟩, [0, 1, 2], by rfl, by rfl, rfl, rfl⟩
  · refine ExOk.app ?_
    cases xs with
    | nil =>
      refine (called_empty2 hx.ok hx.n hN hfr hf h3 h2 o1 o2 v).mono ?_
      rintro f σ' ⟨rfl, rfl⟩
      exact ⟨[0, 1, 2], by rfl, by rfl, rfl, rfl⟩
    | cons y l =>
      simp only [List.length_cons] at hl
      rw [eT36]
      refine ExOk.tryN (ExOk.tree (c := g36) hx.ok hN (n := 40) (ok_path (ws := [true]) (t' := (fun (xs : List Int) => (.need (decide ((2 : Int) = (2 : Int)) = true) ( .need ((0 : Nat) < xs.length ∧ xs.length ≤ sizeLine) ( .call 740 [(.obj 0)] [(.ints (xs))] (.int ((hPop xs).fst)) [(.ints ((hPop xs).snd))] ( .ret (.ret (.int ((hPop xs).fst))) ⟨[(S "heap", (.obj 2)), (S "act", (.int ((2 : Int)))), (S "value", (.int (v)))], [], [(AO.frame o1), (AO.frame o2), (.ints ((hPop xs).snd))]⟩))) : T Fl)) (y :: l)) (by kernel_rfl!) ?_))
      exact ok_need rfl (ok_need ⟨by simp, by simp; omega⟩ ⟨⟨n + 2, hx.n, hPop_ok _ n (y :: l) (by simp) (by simp; omega)⟩, [0, 1, 2], by rfl, by rfl, rfl, rfl⟩)
  · refine ExOk.app ?_
    rw [eT36]
    refine ExOk.tryN (ExOk.tree (c := g36) hx.ok hN (n := 40) (ok_path (ws := [false, true]) (t' := .need (decide ((3 : Int) = (2 : Int)) = false) ( .need (decide ((3 : Int) = (3 : Int)) = true) ( .need (xs.length ≤ sizeLine) ( .call 754 [(.obj 0), (.int (v))] [(.ints (xs))] (.int ((hPP xs v).fst)) [(.ints ((hPP xs v).snd))] ( .ret (.ret (.int ((hPP xs v).fst))) ⟨[(S "heap", (.obj 2)), (S "act", (.int ((3 : Int)))), (S "value", (.int (v)))], [], [(AO.frame o1), (AO.frame o2), (.ints ((hPP xs v).snd))]⟩))))) (by kernel_rfl!) ?_))
    exact ok_need rfl (ok_need rfl (ok_need (by omega) ⟨⟨n + 2, hx.n, hPP_ok _ n xs v (by omega)⟩, [0, 1, 2], by rfl, by rfl, rfl, rfl⟩))
  · refine ExOk.app ?_
    cases xs with
    | nil =>
      refine (called_empty4 hx.ok hx.n hN hfr hf h3 h2 o1 o2 v).mono ?_
      rintro f σ' ⟨rfl, rfl⟩
      exact ⟨[0, 1, 2], by rfl, by rfl, rfl, rfl⟩
    | cons y l =>
      simp only [List.length_cons] at hl
      rw [eT36]
      refine ExOk.tryN (ExOk.tree (c := g36) hx.ok hN (n := 40) (ok_path (ws := [false, false, true]) (t' := (fun (xs : List Int) => (.need (decide ((4 : Int) = (2 : Int)) = false) ( .need (decide ((4 : Int) = (3 : Int)) = false) ( .need (decide ((4 : Int) = (4 : Int)) = true) ( .need ((0 : Nat) < xs.length ∧ xs.length ≤ sizeLine) ( .call 747 [(.obj 0), (.int (v))] [(.ints (xs))] (.int ((hRep xs v).fst)) [(.ints ((hRep xs v).snd))] ( .ret (.ret (.int ((hRep xs v).fst))) ⟨[(S "heap", (.obj 2)), (S "act", (.int ((4 : Int)))), (S "value", (.int (v)))], [], [(AO.frame o1), (AO.frame o2), (.ints ((hRep xs v).snd))]⟩))))) : T Fl)) (y :: l)) (by kernel_rfl!) ?_))
      exact ok_need rfl (ok_need rfl (ok_need rfl (ok_need ⟨by simp, by simp; omega⟩ ⟨⟨n + 2, hx.n, hRep_ok _ n (y :: l) v (by simp) (by simp; omega)⟩, [0, 1, 2], by rfl, by rfl, rfl, rfl⟩)))
end
end Mine
namespace Mine
noncomputable section
theorem gset (l : List Int) (i j : Nat) (a : Int) (h : i < l.length) : (l.set i a).getD j 0 = if j = i then a else l.getD j 0 := by
  simp only [List.getD, List.getElem?_set]
  by_cases hj : i = j
  · subst hj; simp [h]
  · rw [if_neg hj, if_neg (Ne.symm hj)]
theorem swap_perm (xs : List Int) (p c : Nat) (x : Int) (hp : p < xs.length) (hc : c < xs.length) (hne : p ≠ c) : ((xs.set p (xs.getD c 0)).set c x).Perm (xs.set p x) := by
  rw [List.perm_iff_count]
  intro z
  have hc' : c < (xs.set p (xs.getD c 0)).length := by simpa using hc
  rw [List.count_set hc', List.count_set hp, List.count_set hp]
  have e : (xs.set p (xs.getD c 0))[c] = xs.getD c 0 := by
    rw [List.getElem_set_ne hne]
    simp [List.getD, hc]
  rw [e]
  omega
theorem set_self (xs : List Int) (p : Nat) (hp : p < xs.length) : xs.set p (xs.getD p 0) = xs := by
  refine List.ext_getElem? fun i => ?_
  rw [List.getElem?_set]
  by_cases h : p = i
  · subst h; simp [List.getD, hp]
  · simp [h]
noncomputable def Hole (p : Nat) (xs : List Int) : Prop := (∀ i, i + 1 < xs.length → i + 1 ≠ p → i / 2 ≠ p → xs.getD (i / 2) 0 ≤ xs.getD (i + 1) 0) ∧ (∀ i, i + 1 < xs.length → i / 2 = p → 0 < p → xs.getD ((p - 1) / 2) 0 ≤ xs.getD (i + 1) 0)
noncomputable def Hp (xs : List Int) : Prop := ∀ i, i + 1 < xs.length → xs.getD (i / 2) 0 ≤ xs.getD (i + 1) 0
theorem hole_fill {xs : List Int} {p : Nat} {x : Int} (hp : p < xs.length) (h : Hole p xs) (hc : ∀ i, i + 1 < xs.length → i / 2 = p → x ≤ xs.getD (i + 1) 0) (hu : 0 < p → xs.getD ((p - 1) / 2) 0 ≤ x) : Hp (xs.set p x) := by
  intro i hi
  rw [List.length_set] at hi
  rw [gset _ _ _ _ hp, gset _ _ _ _ hp]
  by_cases h1 : i + 1 = p
  · have : i / 2 ≠ p := by omega
    rw [if_neg this, if_pos h1]
    have := hu (by omega)
    rwa [show (p - 1) / 2 = i / 2 by omega] at this
  · rw [if_neg h1]
    by_cases h2 : i / 2 = p
    · rw [if_pos h2]; exact hc i hi h2
    · rw [if_neg h2]; exact h.1 i hi h1 h2
theorem sd_heap : ∀ (n : Nat) (xs : List Int) (p : Nat) (x : Int), p ≤ n → p < xs.length → Hole p xs → (∀ i, i + 1 < xs.length → i / 2 = p → x ≤ xs.getD (i + 1) 0) → Hp (sd n xs p x) ∧ (sd n xs p x).Perm (xs.set p x) := by
  intro n
  induction n with
  | zero =>
    intro xs p x hn hp h hc
    obtain rfl : p = 0 := by omega
    exact ⟨hole_fill hp h hc (by omega), .refl _⟩
  | succ n ih =>
    intro xs p x hn hp h hc
    rw [sd_succ]
    by_cases h0 : p = 0
    · rw [if_pos h0]
      exact ⟨hole_fill hp h hc (by omega), .refl _⟩
    rw [if_neg h0]
    by_cases hx : x < xs.getD ((p - 1) / 2) 0
    · rw [if_pos hx]
      have hq : (p - 1) / 2 < p := by omega
      generalize hqe : (p - 1) / 2 = q at hx hq ⊢
      have hql : q < xs.length := by omega
      have g := fun j => gset xs p j (xs.getD q 0) hp
      have H : Hole q (xs.set p (xs.getD q 0)) := by
        refine ⟨fun i hi a b => ?_, fun i hi a b => ?_⟩
        · rw [List.length_set] at hi
          rw [g, g]
          have h1 : i + 1 ≠ p := by omega
          rw [if_neg h1]
          by_cases h2 : i / 2 = p
          · rw [if_pos h2]
            have := h.2 i hi h2 (by omega)
            rwa [hqe] at this
          · rw [if_neg h2]; exact h.1 i hi h1 h2
        · rw [List.length_set] at hi
          rw [g, g, if_neg (show (q - 1) / 2 ≠ p by omega)]
          have top : xs.getD ((q - 1) / 2) 0 ≤ xs.getD q 0 := by
            have := h.1 (q - 1) (by omega) (by omega) (by omega)
            rwa [show q - 1 + 1 = q by omega] at this
          by_cases h1 : i + 1 = p
          · rw [if_pos h1]; exact top
          · rw [if_neg h1]
            have := h.1 i hi h1 (by omega)
            rw [a] at this
            omega
      have C : ∀ i, i + 1 < (xs.set p (xs.getD q 0)).length → i / 2 = q → x ≤ (xs.set p (xs.getD q 0)).getD (i + 1) 0 := fun i hi a => by
        rw [List.length_set] at hi
        rw [g]
        by_cases h1 : i + 1 = p
        · rw [if_pos h1]; omega
        · rw [if_neg h1]
          have := h.1 i hi h1 (by omega)
          rw [a] at this
          omega
      obtain ⟨i1, i2⟩ := ih (xs.set p (xs.getD q 0)) q x (by omega) (by simpa using hql) H C
      exact ⟨i1, i2.trans (swap_perm xs p q x hp hql (by omega))⟩
    · rw [if_neg hx]
      exact ⟨hole_fill hp h hc fun _ => by omega, .refl _⟩
theorem su_heap : ∀ (n : Nat) (xs : List Int) (p : Nat), xs.length ≤ p + n → p < xs.length → Hole p xs →
    Hole (su n xs p).2 (su n xs p).1 ∧ (su n xs p).2 < xs.length ∧ (su n xs p).1.length = xs.length ∧ xs.length ≤ 2 * (su n xs p).2 + 1 ∧ ∀ x, ((su n xs p).1.set (su n xs p).2 x).Perm (xs.set p x) := by
  intro n
  induction n with
  | zero => intro xs p h1 h2; omega
  | succ n ih =>
    intro xs p hn hp h
    rw [su_succ]
    have step : ∀ c, c < xs.length → (c = 2 * p + 1 ∨ c = 2 * p + 2) → (∀ d, d < xs.length → (d = 2 * p + 1 ∨ d = 2 * p + 2) → xs.getD c 0 ≤ xs.getD d 0) →
        Hole (su n (xs.set p (xs.getD c 0)) c).2 (su n (xs.set p (xs.getD c 0)) c).1 ∧ (su n (xs.set p (xs.getD c 0)) c).2 < xs.length ∧ (su n (xs.set p (xs.getD c 0)) c).1.length = xs.length ∧ xs.length ≤ 2 * (su n (xs.set p (xs.getD c 0)) c).2 + 1 ∧
          ∀ x, ((su n (xs.set p (xs.getD c 0)) c).1.set (su n (xs.set p (xs.getD c 0)) c).2 x).Perm (xs.set p x) := fun c hc hcp hmin => by
      have g := fun j => gset xs p j (xs.getD c 0) hp
      have H : Hole c (xs.set p (xs.getD c 0)) := by
        refine ⟨fun i hi a b => ?_, fun i hi a b => ?_⟩
        · rw [List.length_set] at hi
          rw [g, g]
          by_cases h1 : i + 1 = p
          · rw [if_pos h1, if_neg (by omega)]
            have := h.2 (c - 1) (by omega) (by omega) (by omega)
            rw [show c - 1 + 1 = c by omega, show (p - 1) / 2 = i / 2 by omega] at this
            exact this
          · rw [if_neg h1]
            by_cases h2 : i / 2 = p
            · rw [if_pos h2]
              exact hmin (i + 1) hi (by omega)
            · rw [if_neg h2]; exact h.1 i hi h1 h2
        · rw [List.length_set] at hi
          rw [g, g, if_pos (by omega), if_neg (by omega)]
          have := h.1 i hi (by omega) (by omega)
          rwa [a] at this
      have := ih (xs.set p (xs.getD c 0)) c (by rw [List.length_set]; omega) (by rw [List.length_set]; exact hc) H
      rw [List.length_set] at this
      obtain ⟨q1, q2, q3, q4, q5⟩ := this
      exact ⟨q1, q2, q3, q4, fun x => (q5 x).trans (swap_perm xs p c x hp hc (by omega))⟩
    by_cases h1 : 2 * p + 1 < xs.length
    · rw [if_pos h1]
      by_cases h2 : 2 * p + 2 < xs.length ∧ ¬ xs.getD (2 * p + 1) 0 < xs.getD (2 * p + 2) 0
      · rw [if_pos h2]
        refine step (2 * p + 2) h2.1 (.inr rfl) fun d hd hdd => ?_
        rcases hdd with rfl | rfl <;> omega
      · rw [if_neg h2]
        refine step (2 * p + 1) h1 (.inl rfl) fun d hd hdd => ?_
        rcases hdd with rfl | rfl
        · omega
        · have : xs.getD (2 * p + 1) 0 < xs.getD (2 * p + 2) 0 := by
            refine Classical.byContradiction fun z => h2 ⟨hd, z⟩
          omega
    · rw [if_neg h1]
      exact ⟨h, hp, rfl, by show xs.length ≤ 2 * p + 1; omega, fun x => .refl _⟩
theorem sup_heap (xs : List Int) (h0 : 0 < xs.length) (h : Hole 0 xs) : Hp (sup xs) ∧ (sup xs).Perm xs := by
  obtain ⟨q1, q2, q3, q4, q5⟩ := su_heap xs.length xs 0 (by omega) h0 h
  unfold sup
  generalize hr : su xs.length xs 0 = r at q1 q2 q3 q4 q5 ⊢
  obtain ⟨ys, q⟩ := r
  dsimp only at q1 q2 q3 q4 q5 ⊢
  have hq : q < ys.length := by omega
  have e : (ys.set q (xs.getD 0 0)).getD q 0 = xs.getD 0 0 := by rw [gset _ _ _ _ hq, if_pos rfl]
  rw [e]
  have g := fun j => gset ys q j (xs.getD 0 0) hq
  have H : Hole q (ys.set q (xs.getD 0 0)) := by
    refine ⟨fun i hi a b => ?_, fun i hi a b => ?_⟩
    · rw [List.length_set] at hi
      rw [g, g, if_neg a, if_neg b]; exact q1.1 i hi a b
    · rw [List.length_set] at hi
      omega
  obtain ⟨r1, r2⟩ := sd_heap q (ys.set q (xs.getD 0 0)) q (xs.getD 0 0) (Nat.le_refl _) (by simpa using hq) H (fun i hi a => by rw [List.length_set] at hi; omega)
  refine ⟨r1, r2.trans ?_⟩
  rw [List.set_set]
  exact (q5 _).trans (by rw [set_self xs 0 h0])
end
end Mine
namespace Mine
noncomputable section
theorem hp_iff (xs : List Int) : Hp xs ↔ HeapOk xs := ⟨fun h i hi => Int.not_lt.mpr (h i hi), fun h i hi => Int.not_lt.mp (h i hi)⟩
theorem hp_top {xs : List Int} (h : Hp xs) : ∀ i, i < xs.length → xs.getD 0 0 ≤ xs.getD i 0 := by
  intro i
  induction i using Nat.strongRecOn with
  | _ i ih =>
    intro hi
    cases i with
    | zero => exact Int.le_refl _
    | succ i => exact Int.le_trans (ih (i / 2) (by omega) (by omega)) (h i hi)
theorem hp_min {y : Int} {l : List Int} (h : Hp (y :: l)) : ∀ z ∈ l, y ≤ z := fun z hz => by
  obtain ⟨i, hi, e⟩ := List.getElem_of_mem hz
  have := hp_top h (i + 1) (by simpa using hi)
  have e2 : (y :: l).getD (i + 1) 0 = z := by simp [List.getD, hi, e]
  rw [e2] at this
  exact this
theorem hp_hole {xs : List Int} (h : Hp xs) : Hole 0 xs := ⟨fun i hi _ _ => h i hi, fun i hi _ z => by omega⟩
theorem hole_set (v : Int) {xs : List Int} (h : Hole 0 xs) (h0 : 0 < xs.length) : Hole 0 (xs.set 0 v) := by
  refine ⟨fun i hi a b => ?_, fun i hi _ z => by omega⟩
  rw [List.length_set] at hi
  rw [gset _ _ _ _ h0, gset _ _ _ _ h0, if_neg b, if_neg a]
  exact h.1 i hi a b
theorem srt_eq {l l' : List Int} (p : l.Perm l') : srt l = srt l' := (srt_of ((srt_perm l).trans p) (srt_asc l))
theorem srt_min {y : Int} {l : List Int} (h : ∀ z ∈ l, y ≤ z) : srt (y :: l) = y :: srt l :=
  (srt_of ((srt_perm l).cons y) (List.pairwise_cons.mpr ⟨fun z hz => h z ((srt_perm l).mem_iff.mp hz), srt_asc l⟩)).symm
theorem push_law (xs : List Int) (v : Int) (h : Hp xs) : Hp (hPush xs v) ∧ (hPush xs v).Perm (xs ++ [v]) := by
  unfold hPush
  have hl : (xs ++ [v]).length = xs.length + 1 := by simp
  have e : (xs ++ [v]).getD xs.length 0 = v := by simp [List.getD]
  have g : ∀ j, j < xs.length → (xs ++ [v]).getD j 0 = xs.getD j 0 := fun j hj => by simp [List.getD, List.getElem?_append_left hj]
  rw [e]
  obtain ⟨r1, r2⟩ := sd_heap xs.length (xs ++ [v]) xs.length v (Nat.le_refl _) (by omega) ⟨fun i hi a b => by
    rw [hl] at hi
    rw [g _ (by omega), g _ (by omega)]; exact h i (by omega), fun i hi a z => by omega⟩ (fun i hi a => by omega)
  refine ⟨r1, r2.trans ?_⟩
  have := set_self (xs ++ [v]) xs.length (by omega)
  rw [e] at this
  rw [this]
theorem rep_law (y : Int) (l : List Int) (v : Int) (h : Hp (y :: l)) : Hp (sup ((y :: l).set 0 v)) ∧ (sup ((y :: l).set 0 v)).Perm (v :: l) :=
  sup_heap _ (by simp) (hole_set v (hp_hole h) (by simp))
theorem pop_law (y : Int) (l : List Int) (h : Hp (y :: l)) : (hPop (y :: l)).1 = y ∧ Hp (hPop (y :: l)).2 ∧ (hPop (y :: l)).2.Perm l := by
  unfold hPop
  cases l with
  | nil => exact ⟨rfl, fun i hi => by simp at hi, .refl _⟩
  | cons z l =>
    have e1 : (y :: z :: l).dropLast = y :: (z :: l).dropLast := rfl
    have e2 : (y :: z :: l).getLastD 0 = (z :: l).getLast (by simp) := by simp [List.getLastD]
    rw [e1, if_neg (by simp)]
    have hd : ∀ i, i < (y :: (z :: l).dropLast).length → (y :: (z :: l).dropLast).getD i 0 = (y :: z :: l).getD i 0 := fun i hi => by
      have : (y :: (z :: l).dropLast) = (y :: z :: l).dropLast := rfl
      rw [this] at hi ⊢
      have hi' : i < (y :: z :: l).length - 1 := by simpa using hi
      simp only [List.getD]
      rw [List.dropLast_eq_take, List.getElem?_take]
      rw [if_pos hi']
    have hh : Hp (y :: (z :: l).dropLast) := fun i hi => by
      rw [hd _ (by omega), hd _ hi]
      exact h i (by simp at hi ⊢; omega)
    obtain ⟨r1, r2⟩ := rep_law y (z :: l).dropLast ((y :: z :: l).getLastD 0) hh
    refine ⟨rfl, r1, r2.trans ?_⟩
    rw [e2]
    have e3 := List.dropLast_concat_getLast (l := z :: l) (by simp)
    have p : ((z :: l).getLast (by simp) :: (z :: l).dropLast).Perm ((z :: l).dropLast ++ [(z :: l).getLast (by simp)]) := (List.perm_append_singleton _ _).symm
    rw [e3] at p
    exact p
/-- one call -/
theorem call_law (xs : List Int) (a v : Int) (ha : 0 ≤ a ∧ a < 5) (h : HeapOk xs) : calledD xs a v = plainD (srt xs) a v ∧ HeapOk (calledL xs a v) ∧ srt (calledL xs a v) = plainL (srt xs) a v ∧ (calledL xs a v).length ≤ xs.length + 1 ∧ ∀ z ∈ calledL xs a v, z ∈ xs ∨ z = v := by
  have h := (hp_iff xs).mpr h
  have main : ∀ ys : List Int, calledL xs a v = ys → calledD xs a v = plainD (srt xs) a v → Hp ys → (∃ zs, ys.Perm zs ∧ srt zs = plainL (srt xs) a v ∧ zs.length ≤ xs.length + 1 ∧ ∀ z ∈ zs, z ∈ xs ∨ z = v) → calledD xs a v = plainD (srt xs) a v ∧ HeapOk (calledL xs a v) ∧ srt (calledL xs a v) = plainL (srt xs) a v ∧ (calledL xs a v).length ≤ xs.length + 1 ∧ ∀ z ∈ calledL xs a v, z ∈ xs ∨ z = v := by
    rintro ys rfl h1 h2 ⟨zs, p, e, hl, hm⟩
    exact ⟨h1, (hp_iff _).mp h2, (srt_eq p).trans e, by rw [p.length_eq]; exact hl, fun z hz => hm z (p.mem_iff.mp hz)⟩
  have push : a = 0 ∨ a = 1 → calledD xs a v = plainD (srt xs) a v ∧ HeapOk (calledL xs a v) ∧ srt (calledL xs a v) = plainL (srt xs) a v ∧ (calledL xs a v).length ≤ xs.length + 1 ∧ ∀ z ∈ calledL xs a v, z ∈ xs ∨ z = v := fun h01 => by
    have n2 : a ≠ 2 := by omega
    have n3 : a ≠ 3 := by omega
    have n4 : a ≠ 4 := by omega
    obtain ⟨q1, q2⟩ := push_law xs v h
    refine main (hPush xs v) (by unfold calledL; rw [if_neg n2, if_neg n4, if_neg n3]) (by unfold calledD plainD; rw [if_neg n2, if_neg n4, if_neg n3, if_neg (by omega), if_neg n3]) q1 ⟨srt xs ++ [v], q2.trans ((srt_perm xs).symm.append_right _), by unfold plainL; rw [if_neg n2, if_neg n4, if_neg n3], by simp [(srt_perm xs).length_eq], fun z hz => ?_⟩
    rcases List.mem_append.mp hz with hz | hz
    · exact .inl ((srt_perm xs).mem_iff.mp hz)
    · exact .inr (List.mem_singleton.mp hz)
  obtain rfl | rfl | rfl | rfl | rfl : a = 0 ∨ a = 1 ∨ a = 2 ∨ a = 3 ∨ a = 4 := by omega
  · exact push (.inl rfl)
  · exact push (.inr rfl)
  · cases xs with
    | nil => exact main [] rfl rfl (fun i hi => by simp at hi) ⟨[], .refl _, rfl, by simp, fun z hz => by cases hz⟩
    | cons y l =>
      have e := srt_min (hp_min h)
      obtain ⟨q0, q1, q2⟩ := pop_law y l h
      refine main (hPop (y :: l)).2 rfl ?_ q1 ⟨srt l, q2.trans (srt_perm l).symm, ?_, by simp [(srt_perm l).length_eq]; omega, fun z hz => .inl (.tail _ ((srt_perm l).mem_iff.mp hz))⟩
      · show D.int _ = plainD (srt (y :: l)) 2 v
        rw [e, q0]; rfl
      · rw [e]
        exact srt_eq (srt_perm l)
  · show _
    by_cases hc : xs ≠ [] ∧ xs.getD 0 0 < v
    · obtain ⟨y, l, rfl⟩ : ∃ y l, xs = y :: l := by
        cases xs with
        | nil => exact absurd rfl hc.1
        | cons y l => exact ⟨y, l, rfl⟩
      have hv : y < v := hc.2
      have e := srt_min (hp_min h)
      have e2 : hPP (y :: l) v = (y, sup ((y :: l).set 0 v)) := if_pos hc
      obtain ⟨q1, q2⟩ := rep_law y l v h
      have e3 : srt (srt (y :: l) ++ [v]) = y :: srt (l ++ [v]) := by
        rw [e]
        rw [show y :: srt l ++ [v] = y :: (srt l ++ [v]) from rfl, srt_min (l := srt l ++ [v]) (fun z hz => ?_), srt_eq ((srt_perm l).append_right [v])]
        rcases List.mem_append.mp hz with hz | hz
        · exact hp_min h z ((srt_perm l).mem_iff.mp hz)
        · rw [List.mem_singleton.mp hz]; omega
      refine main (sup ((y :: l).set 0 v)) ?_ ?_ q1 ⟨l ++ [v], q2.trans (List.perm_append_singleton v l).symm, ?_, by simp, fun z hz => ?_⟩
      · show (hPP (y :: l) v).2 = _
        rw [e2]
      · show D.int (hPP (y :: l) v).1 = D.int ((srt (srt (y :: l) ++ [v])).headD 0)
        rw [e2, e3]; rfl
      · show _ = (srt (srt (y :: l) ++ [v])).tail
        rw [e3]; rfl
      · rcases List.mem_append.mp hz with hz | hz
        · exact .inl (.tail _ hz)
        · exact .inr (List.mem_singleton.mp hz)
    · have e2 : hPP xs v = (v, xs) := if_neg hc
      have hv : ∀ z ∈ xs, v ≤ z := fun z hz => by
        cases xs with
        | nil => cases hz
        | cons y l =>
          have hy : ¬ y < v := fun q => hc ⟨by simp, q⟩
          rcases List.mem_cons.mp hz with rfl | hz
          · omega
          · have := hp_min h z hz; omega
      have e3 : srt (srt xs ++ [v]) = v :: srt xs := by
        rw [srt_eq (List.perm_append_singleton v (srt xs)), srt_min (fun z hz => hv z ((srt_perm xs).mem_iff.mp hz)), srt_eq (srt_perm xs)]
      refine main xs ?_ ?_ h ⟨xs, .refl _, ?_, by omega, fun z hz => .inl hz⟩
      · show (hPP xs v).2 = _
        rw [e2]
      · show D.int (hPP xs v).1 = D.int ((srt (srt xs ++ [v])).headD 0)
        rw [e2, e3]; rfl
      · show _ = (srt (srt xs ++ [v])).tail
        rw [e3]; rfl
  · cases xs with
    | nil => exact main [] rfl rfl (fun i hi => by simp at hi) ⟨[], .refl _, rfl, by simp, fun z hz => by cases hz⟩
    | cons y l =>
      have e := srt_min (hp_min h)
      obtain ⟨q1, q2⟩ := rep_law y l v h
      refine main (sup ((y :: l).set 0 v)) rfl ?_ q1 ⟨srt l ++ [v], (q2.trans (List.perm_append_singleton v l).symm).trans ((srt_perm l).symm.append_right [v]), ?_, by simp [(srt_perm l).length_eq], fun z hz => ?_⟩
      · show D.int _ = plainD (srt (y :: l)) 4 v
        rw [e]; rfl
      · rw [e]; rfl
      · rcases List.mem_append.mp hz with hz | hz
        · exact .inl (.tail _ ((srt_perm l).mem_iff.mp hz))
        · exact .inr (List.mem_singleton.mp hz)
end
end Mine
namespace Mine
noncomputable section
theorem ap_pos {n : Nat} (h : n ≠ 0) : ap n = ap (n / 16) ++ [UInt8.ofNat (65 + n % 16)] := by rw [ap, if_neg h]
theorem ap_zero : ap 0 = [] := by rw [ap, if_pos rfl]
theorem dig (m : Nat) : (UInt8.ofNat (65 + m % 16)).toNat = 65 + m % 16 := by
  have : m % 16 < 16 := Nat.mod_lt _ (by decide)
  rw [UInt8.toNat_ofNat']
  omega
theorem rd_ap (n : Nat) : rd ((ap n).map UInt8.toNat) 0 = n := by
  induction n using Nat.strongRecOn with
  | _ n ih =>
    by_cases h : n = 0
    · subst h; rw [ap_zero]; rfl
    · rw [ap_pos h, List.map_append, List.map_singleton, rd_snoc, ih (n / 16) (by omega), dig]
      omega
theorem rd_word {x : Int} (h : 0 ≤ x) : rd (wordOf x) 0 = x := by
  unfold wordOf
  rw [rd_ap]; omega
noncomputable def Letters (w : List Nat) : Prop := ∀ c ∈ w, 65 ≤ c ∧ c ≤ 80
theorem word_letters (x : Int) : Letters (wordOf x) := fun c hc => by
  obtain ⟨c', h, rfl⟩ := List.mem_map.mp hc
  exact ap_chars _ _ h
theorem rd_nonneg : ∀ (n : Nat) (w : List Nat), w.length = n → Letters w → 0 ≤ rd w 0 := by
  intro n
  induction n with
  | zero => intro w h _; rw [List.length_eq_zero_iff.mp h]; exact Int.le_refl _
  | succ n ih =>
    intro w h hl
    rcases List.eq_nil_or_concat w with rfl | ⟨l, c, rfl⟩
    · simp at h
    · have h2 := ih l (by simpa using h) (fun d hd => hl d (by simp [hd]))
      have h3 := hl c (by simp)
      rw [List.concat_eq_append, rd_snoc]; omega
theorem ap_rd : ∀ (n : Nat) (c : Nat) (t : List Nat), t.length = n → Letters (c :: t) → c ≠ 65 → (ap (rd (c :: t) 0).natAbs).map UInt8.toNat = c :: t := by
  intro n
  induction n with
  | zero =>
    intro c t h hl hc
    rw [List.length_eq_zero_iff.mp h]
    have h2 := hl c (.head _)
    have e : rd [c] 0 = (c : Int) - 65 := by show (0 : Int) * 16 + ((c : Int) - 65) = _; omega
    rw [e, ap_pos (by omega), List.map_append, List.map_singleton, dig]
    have e1 : ((c : Int) - 65).natAbs / 16 = 0 := by omega
    have e2 : 65 + ((c : Int) - 65).natAbs % 16 = c := by omega
    rw [e1, e2, ap_zero]; rfl
  | succ n ih =>
    intro c t h hl hc
    rcases List.eq_nil_or_concat t with rfl | ⟨l, d, rfl⟩
    · simp at h
    · rw [List.concat_eq_append] at hl h ⊢
      have hd := hl d (by simp)
      have hl' : Letters (c :: l) := fun b hb => hl b (by rcases List.mem_cons.mp hb with rfl | hb <;> simp [*])
      have i := ih c l (by simpa using h) hl' hc
      have nn := rd_nonneg _ _ rfl hl'
      have e : rd (c :: (l ++ [d])) 0 = rd (c :: l) 0 * 16 + ((d : Int) - 65) := by rw [← List.cons_append, rd_snoc]
      have pos : rd (c :: l) 0 ≠ 0 := fun z => by
        rw [z] at i
        have i : (ap 0).map UInt8.toNat = c :: l := i
        rw [ap_zero] at i; cases i
      have q0 : (rd (c :: (l ++ [d])) 0).natAbs ≠ 0 := by rw [e]; omega
      have q1 : (rd (c :: (l ++ [d])) 0).natAbs / 16 = (rd (c :: l) 0).natAbs := by rw [e]; omega
      have q2 : 65 + (rd (c :: (l ++ [d])) 0).natAbs % 16 = d := by rw [e]; omega
      rw [ap_pos q0, List.map_append, List.map_singleton, dig, q1, q2, i]; rfl
theorem ins_letters (r1 r2 : Nat) (h1 : 65 ≤ r1 ∧ r1 ≤ 80) (h2 : 65 ≤ r2 ∧ r2 ≤ 80) : ∀ w, Letters w → Letters (insW r1 r2 w) ∧ (insW r1 r2 w).length ≤ 2 * w.length := by
  intro w
  induction w with
  | nil => intro _; exact ⟨fun c hc => (by cases hc), Nat.le_refl _⟩
  | cons c w ih =>
    intro h
    obtain ⟨i1, i2⟩ := ih fun d hd => h d (.tail _ hd)
    rw [insW_cons]
    have hc := h c (.head _)
    refine ⟨fun d hd => ?_, ?_⟩
    · rcases List.mem_append.mp hd with hd | hd
      · split at hd
        · rcases List.mem_cons.mp hd with rfl | hd
          · exact h2
          · rw [List.mem_singleton.mp hd]; exact hc
        · rw [List.mem_singleton.mp hd]; exact hc
      · exact i1 d hd
    · rw [List.length_append, List.length_cons]
      split <;> simp <;> omega
theorem bare_letters (r0 r1 r2 r3 : Nat) (h2 : 65 ≤ r2 ∧ r2 ≤ 80) : ∀ w, Letters w → Letters (bare r0 r1 r2 r3 w).flatten ∧ (bare r0 r1 r2 r3 w).flatten.length ≤ 2 * w.length := by
  intro w
  induction w with
  | nil => intro _; exact ⟨fun c hc => (by cases hc), Nat.le_refl _⟩
  | cons c w ih =>
    intro h
    obtain ⟨i1, i2⟩ := ih fun d hd => h d (.tail _ hd)
    have e : bare r0 r1 r2 r3 (c :: w) = (if c ∈ [r0, r1, r2, r3] then [r2, c] else [c]) :: bare r0 r1 r2 r3 w := rfl
    rw [e, List.flatten_cons]
    have hc := h c (.head _)
    refine ⟨fun d hd => ?_, ?_⟩
    · rcases List.mem_append.mp hd with hd | hd
      · split at hd
        · rcases List.mem_cons.mp hd with rfl | hd
          · exact h2
          · rw [List.mem_singleton.mp hd]; exact hc
        · rw [List.mem_singleton.mp hd]; exact hc
      · exact i1 d hd
    · rw [List.length_append, List.length_cons]
      have : (if c ∈ [r0, r1, r2, r3] then [r2, c] else [c]).length ≤ 2 := by split <;> simp
      omega
theorem spell_letters {r0 r1 r2 r3 : Nat} (ro : Ro r0 r1 r2 r3) (k : Int) (w : List Nat) (h : Letters w) : Letters (spell r0 r1 r2 r3 k w) ∧ (spell r0 r1 r2 r3 k w).length ≤ 2 * w.length + 2 := by
  unfold spell
  split
  · refine ⟨fun d hd => ?_, by simp; omega⟩
    simp only [List.mem_append, List.mem_singleton] at hd
    rcases hd with (rfl | hd) | rfl
    · exact ro.b3
    · exact h d hd
    · exact ro.b3
  · split
    · obtain ⟨i1, i2⟩ := ins_letters r1 r2 ro.b1 ro.b2 w h
      refine ⟨fun d hd => ?_, by simp; omega⟩
      simp only [List.mem_append, List.mem_singleton] at hd
      rcases hd with (rfl | hd) | rfl
      · exact ro.b1
      · exact i1 d hd
      · exact ro.b1
    · obtain ⟨i1, i2⟩ := bare_letters r0 r1 r2 r3 ro.b2 w h
      rw [glue_bare]
      exact ⟨i1, by omega⟩
theorem glue_letters (r0 : Nat) (h0 : 65 ≤ r0 ∧ r0 ≤ 80) (k : Nat) : ∀ l : List (List Nat), (∀ s ∈ l, Letters s ∧ s.length ≤ k) → Letters (glue [r0] l) ∧ (glue [r0] l).length ≤ (k + 1) * l.length := by
  intro l
  induction l with
  | nil => intro _; exact ⟨fun c hc => (by cases hc), Nat.zero_le _⟩
  | cons s l ih =>
    intro h
    cases l with
    | nil =>
      rw [glue_one]
      have := h s (.head _)
      exact ⟨this.1, by simp; omega⟩
    | cons s' l =>
      obtain ⟨i1, i2⟩ := ih fun u hu => h u (.tail _ hu)
      have hs := h s (.head _)
      rw [glue_two]
      refine ⟨fun d hd => ?_, ?_⟩
      · simp only [List.mem_append, List.mem_singleton] at hd
        rcases hd with hd | rfl | hd
        · exact hs.1 d hd
        · exact h0
        · exact i1 d hd
      · simp only [List.length_append, List.length_cons, List.length_nil] at i2 ⊢
        have e : (k + 1) * (l.length + 1 + 1) = (k + 1) * (l.length + 1) + (k + 1) := by rw [Nat.mul_add, Nat.mul_one]
        have := hs.2
        omega
theorem ap_len3 {n : Nat} (h : n < 4096) : (ap n).length ≤ 3 := by
  by_cases h0 : n = 0
  · subst h0; rw [ap_zero]; decide
  rw [ap_pos h0]
  by_cases h1 : n / 16 = 0
  · rw [h1, ap_zero]; simp
  rw [ap_pos h1]
  by_cases h2 : n / 16 / 16 = 0
  · rw [h2, ap_zero]; simp
  rw [ap_pos h2]
  have h3 : n / 16 / 16 / 16 = 0 := by omega
  rw [h3, ap_zero]; simp
section
variable {r0 r1 r2 r3 : Nat}
theorem spelt_mem {tu : Int} {ws : List (List Nat)} {s : List Nat} (h : s ∈ speltL r0 r1 r2 r3 tu ws) : ∃ k i, s = spell r0 r1 r2 r3 k (ws.getD i []) := by
  obtain ⟨i, _, rfl⟩ := List.mem_map.mp h
  exact ⟨_, _, rfl⟩
theorem laid_facts (ro : Ro r0 r1 r2 r3) (tu : Int) (xs : List Int) (hx : ∀ z ∈ xs, 0 ≤ z ∧ z < 4096) (hl : xs.length ≤ 50) : Letters (laidN r0 r1 r2 r3 tu xs) ∧ (laidN r0 r1 r2 r3 tu xs).length ≤ 900 := by
  have hw : ∀ i, Letters ((xs.map wordOf).getD i []) ∧ ((xs.map wordOf).getD i []).length ≤ 3 := fun i => by
    by_cases h : i < (xs.map wordOf).length
    · have e : (xs.map wordOf).getD i [] ∈ xs.map wordOf := by
        simp only [List.getD, List.getElem?_eq_getElem h, Option.getD_some]
        exact List.getElem_mem h
      obtain ⟨z, hz, e2⟩ := List.mem_map.mp e
      rw [← e2]
      have := hx z hz
      exact ⟨word_letters z, by unfold wordOf; rw [List.length_map]; exact ap_len3 (by omega)⟩
    · have : (xs.map wordOf).getD i [] = [] := by simp only [List.getD, List.getElem?_eq_none (Nat.le_of_not_lt h), Option.getD_none]
      rw [this]
      exact ⟨fun c hc => (by cases hc), Nat.zero_le _⟩
  obtain ⟨i1, i2⟩ := glue_letters r0 ro.b0 8 (speltL r0 r1 r2 r3 tu (xs.map wordOf)) fun s hs => by
    obtain ⟨k, i, rfl⟩ := spelt_mem hs
    obtain ⟨j1, j2⟩ := spell_letters ro k _ (hw i).1
    exact ⟨j1, by have := (hw i).2; omega⟩
  unfold laidN
  refine ⟨fun c hc => ?_, ?_⟩
  · rcases List.mem_cons.mp hc with rfl | hc
    · omega
    · exact i1 c hc
  · have e : (speltL r0 r1 r2 r3 tu (xs.map wordOf)).length = xs.length := by unfold speltL; simp
    rw [e] at i2
    rw [List.length_cons]; omega
theorem laid_heard (ro : Ro r0 r1 r2 r3) (tu : Int) (xs : List Int) (hx : ∀ z ∈ xs, 0 ≤ z ∧ z < 4096) (hl : xs.length ≤ 50) :
    (ap (rd (laidN r0 r1 r2 r3 tu xs) 0).natAbs).map UInt8.toNat = laidN r0 r1 r2 r3 tu xs ∧ Heard r0 r1 r2 r3 ((laidN r0 r1 r2 r3 tu xs).drop 1) (xs.map wordOf) := by
  obtain ⟨h1, h2⟩ := laid_facts ro tu xs hx hl
  refine ⟨ap_rd _ _ _ rfl h1 (by decide), heard_glue ro _ _ (all2_of_get (by unfold speltL; simp) fun i s w hs hw => ?_)⟩
  unfold speltL at hs
  rw [List.getElem?_map] at hs
  obtain ⟨j, hj, rfl⟩ := Option.map_eq_some_iff.mp hs
  have hj2 : j = i := by
    have := List.getElem?_eq_some_iff.mp hj
    obtain ⟨a, b⟩ := this
    rw [List.getElem_range] at b
    exact b.symm
  subst hj2
  unfold spelt
  have e : ((0 : Int) + (j : Nat)).toNat = j := by omega
  rw [e]
  have e2 : (xs.map wordOf).getD j [] = w := by simp only [List.getD, hw, Option.getD_some]
  rw [e2]
  exact lex_spell ro _ w
end
theorem let_at : ∀ i : Fin 16, letU.getD i.1 0 = 65 + i.1 := by decide
theorem role_dist : ∀ (m : Fin 16) (s : Fin 8), s.1 = 0 ∨ (∀ i j : Fin 4, i.1 < j.1 → 65 + (m.1 + i.1 * s.1) % 16 ≠ 65 + (m.1 + j.1 * s.1) % 16) := by decide +kernel
theorem roleC_eq (z : Int) (k : Nat) (s : Nat) (hs : stepZ z = s) : roleC z k = 65 + ((z % 16).toNat + k * s) % 16 := by
  unfold roleC
  rw [hs, Int.fmod_eq_emod_of_nonneg _ (by decide)]
  have e : ((z + (k : Int) * (s : Int)) % 16).toNat = ((z % 16).toNat + k * s) % 16 := by
    rw [← Int.natCast_mul]
    generalize k * s = q
    omega
  rw [e]
  exact let_at ⟨_, Nat.mod_lt _ (by decide)⟩
theorem roles_ro (z : Int) : ∃ r0 r1 r2 r3, rolesL z = [r0, r1, r2, r3] ∧ Ro r0 r1 r2 r3 := by
  obtain ⟨s, hs, h0, h8⟩ : ∃ s : Nat, stepZ z = s ∧ s ≠ 0 ∧ s < 8 := by
    refine ⟨(stepZ z).toNat, ?_⟩
    unfold stepZ
    rw [Int.fmod_eq_emod_of_nonneg _ (by decide)]
    generalize z.fdiv 16 = q
    omega
  have m16 : (z % 16).toNat < 16 := by omega
  have d := (role_dist ⟨_, m16⟩ ⟨s, h8⟩).resolve_left h0
  have b : ∀ k, 65 ≤ roleC z k ∧ roleC z k ≤ 80 := fun k => by
    rw [roleC_eq z k s hs]
    have := Nat.mod_lt ((z % 16).toNat + k * s) (show 0 < 16 by decide)
    exact ⟨Nat.le_add_right _ _, Nat.add_le_add_left (Nat.le_of_lt_succ this) 65⟩
  have e : ∀ i j : Fin 4, i.1 < j.1 → roleC z i.1 ≠ roleC z j.1 := fun i j h => by
    rw [roleC_eq z i.1 s hs, roleC_eq z j.1 s hs]
    exact d i j h
  exact ⟨_, _, _, _, rfl, b 0, b 1, b 2, b 3, e 0 1 (by decide), e 0 2 (by decide), e 0 3 (by decide), e 1 2 (by decide), e 1 3 (by decide), e 2 3 (by decide)⟩
end
end Mine
namespace Mine
noncomputable section
noncomputable def Flat (ao : AO) : Prop := ao.refs = [] ∧ ∀ ρ, ao.ren ρ = ao
theorem OM.flat {as bs : List Addr} {o : Obj} {ao : AO} (h : OM as o ao) (f : Flat ao) : OM bs o ao := by
  have := OM.ren (ρ := id) (bs := bs) h (fun j hj => by rw [f.1] at hj; cases hj)
  rwa [f.2] at this
theorem Sim.renewTo {x : Fx} {σ : St} {s s' : Shared} {m : Str → Option Value} {news : List (Addr × Obj)} (S : Sim x σ s m news) (objs' : List AO) (hlen : objs'.length = σ.objs.length) (hns : s'.heap.Ns x.env.locals m) (keep : ∀ b o, x.h₀.get? b = some o → s'.heap.get? b = some o)
    (each : ∀ (i : Nat) (p : Addr × Obj) (ao : AO), news[i]? = some p → objs'[i]? = some ao → ∃ o', s'.heap.get? p.1 = some o' ∧ OM (ads news) o' ao) (hg : s'.gens = #[]) (ho : s'.os = s.os) : ∃ news', ads news' = ads news ∧ Sim x { σ with objs := objs' } s' m news' := by
  have lenO := S.obj.length
  have ea : ads (news.map fun p => (p.1, (s'.heap.get? p.1).getD default)) = ads news := by simp [ads, List.map_map, Function.comp_def]
  refine ⟨news.map fun p => (p.1, (s'.heap.get? p.1).getD default), ea, ?_⟩
  refine ⟨⟨hns, keep, S.F.above⟩, fun p hp => ?_, by rw [ea]; exact S.nd, by rw [ea]; exact S.loc, by rw [ea]; exact S.cel, ?_, hg, ho.trans S.os⟩
  · obtain ⟨p0, hp0, rfl⟩ := List.mem_map.mp hp
    obtain ⟨i, hi⟩ := List.getElem?_of_mem hp0
    have hlt : i < objs'.length := by rw [hlen, ← lenO]; exact (List.getElem?_eq_some_iff.mp hi).1
    obtain ⟨o', e1, _⟩ := each i p0 _ hi (some_of_lt .junk hlt)
    have z := S.N p0 hp0
    exact ⟨by show s'.heap.get? p0.1 = some ((s'.heap.get? p0.1).getD default); rw [e1]; rfl, z.2.1, z.2.2⟩
  · rw [ea]
    refine all2_of_get (by simp [lenO, hlen]) fun i p ao h1 h2 => ?_
    rw [List.getElem?_map] at h1
    obtain ⟨p0, hp0, rfl⟩ := Option.map_eq_some_iff.mp h1
    obtain ⟨o', e1, e2⟩ := each i p0 ao hp0 h2
    show OM (ads news) ((s'.heap.get? p0.1).getD default) ao
    rw [e1]; exact e2
theorem callF {x : Fx} (hx : x.Ok) {n : Nat} (hn : x.n = n + 1) {outer : List Env} (hfr : x.A.frames = some (x.env :: outer)) (hf : x.env.frame = some x.env.locals) {σ : St} {s : Shared} {m : Str → Option Value} {news : List (Addr × Obj)} (S : Sim x σ s m news)
    {ids : List Nat} (nd : ids.Nodup) (hl : ∀ i ∈ ids, i < σ.objs.length) (hfl : ∀ i ∈ ids, Flat (σ.objs.getD i .deq)) (hfi : FrIs outer (ads (subN news ids))) {f : Addr} {args : List D} {vals : List Value} {d' : D} {os₁ : List AO} (hos : os₁.length = ids.length) (hfl' : ∀ ao ∈ os₁, Flat ao) (hd : d'.refs = [])
    (hcall : ∀ oL, CallOkG x.w n f args (.frame oL :: ids.map fun i => σ.objs.getD i .deq) (InFr (outer.length + 1)) fun d o => d = d' ∧ o = .frame oL :: os₁)
    (ra : All2 (Rel (x.env.locals :: ads (subN news ids))) vals args) {Q : Value → Shared → Prop} {E : Value → Shared → Prop}
    (post : ∀ v s' news', ads news' = ads news → Sim x { σ with objs := mergeL .deq σ.objs ids os₁ } s' m news' → Rel (ads news) v d' → Q v s') : wpAny (model pw x.w) x.A (call (.ref f) vals) Q E s := by
  obtain ⟨oL, es, ep, hoL, hdat, hks, hfind⟩ := S.F.ns
  have hL0 : x.h₀.get? x.env.locals = none := by
    cases q : x.h₀.get? x.env.locals with
    | none => rfl
    | some o => exact absurd (Heap.lt_size q) (Nat.not_lt.mpr S.F.above)
  have O := call_own hx S nd hl (fun i hi j hj => by rw [(hfl i hi).1] at hj; cases hj)
  have hLn : x.env.locals ∉ ads (subN news ids) := fun q => by
    obtain ⟨p, hp, e⟩ := List.mem_map.mp q
    exact (S.N p (mem_sub S hl hp)).2.1 e
  have esub : subO σ.objs ids = ids.map fun i => σ.objs.getD i .deq := by
    unfold subO
    refine List.map_congr_left fun i hi => (hfl i hi).2 _
  rw [esub] at O
  have O' : Own (hideAll s.heap (x.env.locals :: ads (subN news ids))) s.heap ((x.env.locals, oL) :: subN news ids) (.frame oL :: ids.map fun i => σ.objs.getD i .deq) := by
    refine ⟨fun b o e => of_hideAll _ e, by rw [hideAll_size]; exact Nat.le_refl _, fun p hp => ?_, ?_, ?_⟩
    · rcases List.mem_cons.mp hp with rfl | hp
      · exact ⟨hoL, hideAll_none _ (.head _)⟩
      · exact ⟨(O.own p hp).1, hideAll_none _ (.tail _ (List.mem_map_of_mem hp))⟩
    · exact List.nodup_cons.mpr ⟨hLn, O.nd⟩
    · exact .cons ⟨⟨oL.slots, rfl⟩, es, ep, hdat⟩ (all2_of_get O.obj.length fun i p ao h1 h2 => by
        obtain ⟨q, hq, r⟩ := O.obj.get h2
        rw [h1] at hq; cases hq
        obtain ⟨j, hj, rfl⟩ := List.mem_map.mp (List.mem_of_getElem? h2)
        exact r.flat (hfl j hj))
  have hbase : ∀ b o, x.h₀.get? b = some o → (hideAll s.heap (x.env.locals :: ads (subN news ids))).get? b = some o := fun b o e => hideAll_get _ (S.F.keep b o e) fun q => by
    rcases List.mem_cons.mp q with rfl | q
    · rw [hL0] at e; cases e
    · obtain ⟨p, hp, rfl⟩ := List.mem_map.mp q
      have := (S.N p (mem_sub S hl hp)).2.2
      rw [e] at this; cases this
  have rm : Room (n + 1) x.A := by have := hx.room; rw [hn] at this; exact this
  refine wpAny_call (hcall oL x.A s _ ((x.env.locals, oL) :: subN news ids) vals _ rm ⟨x.env :: outer, hfr, rfl, by rw [hx.kind]; decide, hf, hfi⟩ (hx.base.keeps hbase) O' ra S.gens ?_)
  rintro v s' news'' d os'' ⟨rfl, rfl⟩ P pre r hg ho
  have lenN : news''.length = ids.length + 1 := by rw [P.obj.length]; simp [hos]
  have at'' : ∀ k a, (x.env.locals :: ads (subN news ids))[k]? = some a → ∃ o', news''[k]? = some (a, o') ∧ s'.heap.get? a = some o' := fun k a h => by
    have h2 : (ads news'')[k]? = some a := at_pre h pre
    rw [List.getElem?_map] at h2
    obtain ⟨p, hp, rfl⟩ := Option.map_eq_some_iff.mp h2
    exact ⟨p.2, hp, (P.own p (List.mem_of_getElem? hp)).1⟩
  obtain ⟨oL', gL, hL'⟩ := at'' 0 x.env.locals rfl
  have omL : OM (ads news'') oL' (.frame oL) := by
    obtain ⟨q, hq, r⟩ := P.obj.get (i := 0) (b := .frame oL) rfl
    rw [gL] at hq; cases hq
    exact r
  obtain ⟨⟨sl, eL⟩, _⟩ := omL
  have ns : s'.heap.Ns x.env.locals m := ⟨oL', es, ep, hL', by rw [eL]; exact hdat, hks, hfind⟩
  have lenO := S.obj.length
  obtain ⟨news', ea, S'⟩ := S.renewTo (s' := s') (mergeL .deq σ.objs ids os₁) (by rw [mergeL_length, hos]; simp) ns (fun b o e => P.keep b o (hbase b o e)) (fun i p ao h1 h2 => by
    have hi : i < σ.objs.length := by rw [← lenO]; exact (List.getElem?_eq_some_iff.mp h1).1
    rw [mergeL_low hi] at h2
    have z := S.N p (List.mem_of_getElem? h1)
    cases hm : memN ids i with
    | true =>
      rw [hm] at h2
      have h2 : os₁.getD (pos ids i) .deq = ao := Option.some.inj h2
      have him := memN_iff.mp hm
      have hk := pos_lt him
      have ha : (ads news)[i]? = some p.1 := by rw [List.getElem?_map, h1]; rfl
      obtain ⟨o', g1, g2⟩ := at'' (pos ids i + 1) p.1 (ads_sub S hl him ha)
      have hao : os₁[pos ids i]? = some ao := by rw [← h2]; exact some_of_lt _ (by omega)
      obtain ⟨q, hq, r⟩ := P.obj.get (i := pos ids i + 1) (b := ao) hao
      rw [g1] at hq; cases hq
      exact ⟨o', g2, r.flat (hfl' ao (List.mem_of_getElem? hao))⟩
    | false =>
      rw [hm] at h2
      have h2 : σ.objs.getD i .deq = ao := Option.some.inj h2
      have him : i ∉ ids := fun q => by rw [memN_iff.mpr q] at hm; cases hm
      obtain ⟨q, hq, r⟩ := S.obj.get (some_of_lt .deq hi)
      rw [h1] at hq; cases hq
      rw [h2] at r
      refine ⟨p.2, P.keep _ _ (hideAll_get _ z.1 fun q => ?_), r⟩
      rcases List.mem_cons.mp q with q | q
      · exact z.2.1 q
      · obtain ⟨p', hp', e⟩ := List.mem_map.mp q
        obtain ⟨j, hj, e2⟩ := List.mem_map.mp hp'
        have hjl : j < news.length := by rw [lenO]; exact hl j hj
        have g1 : (ads news)[j]? = some p.1 := by
          rw [List.getElem?_map, some_of_lt (0, default) hjl]
          show some (news.getD j (0, default)).1 = _
          rw [e2, e]
        have g2 : (ads news)[i]? = some p.1 := by rw [List.getElem?_map, h1]; rfl
        have := (List.getElem?_inj (List.getElem?_eq_some_iff.mp g1).1 S.nd).mp (g1.trans g2.symm)
        subst this
        exact him hj) hg ho
  have r' : Rel (ads news) v d := by
    cases d with
    | obj i => cases hd
    | _ => exact r
  exact post v s' news' ea S' r'
end
end Mine
namespace Mine
noncomputable section
noncomputable def spRun (N : Nat) (hp : List Int) (dp : D) : Specs := fun a args os => match Nat.beq a 809, Nat.beq a 828, Nat.beq a 823, Nat.beq a 804, args, os with
  | true, _, _, _, [.int z, .str [r0, r1, r2, r3]], [] => .need (z.natAbs = N) (.done (.obj 0) [.ints hp])
  | _, true, _, _, [.obj 0, .obj 1, .obj 2], [.ints a, .ints b, .ints c] => .need (b = a ∧ c = srt a ∧ HeapOk a ∧ a.length < 60) (.done (.bool true) [.ints a, .ints b, .ints c])
  | _, _, true, _, [.obj 0, .int a, .int v], [.ints xs] => .need (plainD xs a v = dp ∧ 0 ≤ a ∧ a < 5 ∧ xs.length < 60) (.done dp [.ints (plainL xs a v)])
  | _, _, _, true, [.obj 0, .str [r0, r1, r2, r3], .int t], [.ints xs] => .need (xs.length ≤ 50 ∧ ∀ z ∈ xs, 0 ≤ z ∧ z < 4096) (.done (.int (rd (laidN r0 r1 r2 r3 t xs) 0)) [.ints xs])
  | _, _, _, _, _, _ => .bad
noncomputable abbrev S39 : Stmt := topSt 39
noncomputable abbrev B39 : List Stmt := bodyOf S39
noncomputable abbrev g39 (N : Nat) (hp : List Int) (dp : D) : Cfg := cfg (spRun N hp dp) S39
noncomputable abbrev L39 : List Stmt := fBody (st1 B39 1)
noncomputable def rnLoc (r0 r1 r2 r3 : Nat) (t : Int) (j : Nat) (N : Int) : List (Str × D) := [(S "calls", .obj 1), (S "roles", .str [r0, r1, r2, r3]), (S "turn", .int t), (S "row", .obj 2), (S "laid", .obj j), (S "number", .int N)]
noncomputable def rnOs (o : Obj) (cs row : List Int) (i : Nat) (rest : List AO) : List AO := [.frame o, .ints cs, .ints row, .it (.list 1) i] ++ rest
noncomputable def cmL : Expr → Expr
  | .Compare l _ _ _ => l
  | _ => default
noncomputable def cmR : Expr → Expr
  | .Compare _ _ (r :: _) _ => r
  | _ => default
noncomputable def cmPos : Expr → Pos
  | .Compare _ _ _ p => p
  | _ => default
noncomputable abbrev X39 : Expr := cmL (iTest (st1 L39 3))
noncomputable def stC (r0 r1 r2 r3 : Nat) (t N z a v : Int) (J H : Nat) (o : Obj) (cs row : List Int) (i : Nat) (pre : List AO) (hp : List Int) : St := ⟨rnLoc r0 r1 r2 r3 t J N ++ [(S "x", .int z), (S "value", .int v), (S "act", .int a), (S "heap", .obj H)], [], rnOs o cs row i (pre ++ [.ints hp])⟩
theorem calledD_refs (xs : List Int) (a v : Int) : (calledD xs a v).refs = [] := by
  unfold calledD
  split
  · cases xs <;> rfl
  · split
    · cases xs <;> rfl
    · split <;> rfl
theorem plainD_cases (xs : List Int) (a v : Int) : plainD xs a v = .none ∨ (∃ k, plainD xs a v = .int k) ∨ ∃ u, plainD xs a v = .str u := by
  unfold plainD
  split
  · cases xs with
    | nil => exact .inr (.inr ⟨_, rfl⟩)
    | cons y l => exact .inr (.inl ⟨_, rfl⟩)
  · split
    · exact .inr (.inl ⟨_, rfl⟩)
    · exact .inl rfl
theorem cmp_p {x : Fx} (hx : x.Ok) {n : Nat} (hn : x.n = n + 6) (hN : x.env.scope.names = (g39 0 [] .none).N) {outer : List Env} (hfr : x.A.frames = some (x.env :: outer)) (hf : x.env.frame = some x.env.locals) (hol : outer.length = 1) (hfi : FrIs outer x.a0)
    (r0 r1 r2 r3 : Nat) (o : Obj) (cs : List Int) (i : Nat) (t N z a v : Int) (hp ld : List Int) (ha : 0 ≤ a ∧ a < 5) (hl : hp.length < 50) (hH : HeapOk hp) {P : Fl → St → Prop} (h : P .next (stC r0 r1 r2 r3 t N z a v 4 5 o cs (plainL (srt hp) a v) i [.ints []] (calledL hp a v))) :
    ExOk x [st1 L39 3] (stC r0 r1 r2 r3 t N z a v 4 5 o cs (srt hp) i [.ints []] hp) P := by
  intro s Q E m news S a0 post
  have eC : [st1 L39 3] = [.If (.Compare (.Call (caFn X39) (hdE (caArgs X39) :: (caArgs X39).drop 1) [] (clPos X39)) [.NotEq] [cmR (iTest (st1 L39 3))] (cmPos (iTest (st1 L39 3)))) (iBody (st1 L39 3)) [] (iPos (st1 L39 3))] := by kernel_rfl!
  rw [eC]
  refine wpAny_execs_cons (wpAny_If (wpAny_isTrue_Compare1 ?_ (by kernel_rfl!)))
  refine call_top (c := g39 0 [] .none) hx hN (f := 816) (ds := [.obj 5, .int a, .int v]) (by kernel_rfl!) (by kernel_rfl!) (by kernel_rfl!) (by kernel_rfl!) (notAttr_ne (by kernel_rfl!)) S fun s1 m1 news1 vals S1 pre1 ra => ?_
  obtain ⟨l, ta, tv, rfl, hlH⟩ : ∃ l ta tv, vals = [.ref l, .int a ta, .int v tv] ∧ (ads news1)[5]? = some l := by
    cases ra with
    | cons q1 q2 =>
      obtain ⟨v2, v3, rfl, ⟨ta, rfl⟩, ⟨tv, rfl⟩⟩ := all2_2 q2
      obtain ⟨l, hl, rfl⟩ := q1
      exact ⟨l, ta, tv, rfl, hl⟩
  obtain ⟨env0, rfl⟩ : ∃ env0, outer = [env0] := List.length_eq_one_iff.mp hol
  have hidl : ∀ i ∈ [0, 5], i < (stC r0 r1 r2 r3 t N z a v 4 5 o cs (srt hp) i [.ints []] hp).objs.length := by
    intro j hj
    show j < 5 + 1
    simp at hj; omega
  have hfi' : FrIs [env0] (ads (subN news1 [0, 5])) := by
    have f1 := frIs_pre hfi (a0.trans pre1)
    cases hn1 : ads news1 with
    | nil => rw [hn1] at f1; exact f1.elim
    | cons b bs =>
      rw [hn1] at f1
      have := ads_sub S1 hidl (i := 0) (by simp) (a := b) (by rw [hn1]; rfl)
      have e0 : pos [0, 5] 0 = 0 := by rfl
      rw [e0] at this
      cases hs : ads (subN news1 [0, 5]) with
      | nil => rw [hs] at this; cases this
      | cons b' bs' =>
        rw [hs] at this
        cases this
        exact ⟨f1.1, f1.2.1, trivial⟩
  have hl1 : (x.env.locals :: ads (subN news1 [0, 5]))[2]? = some l := ads_sub S1 hidl (i := 5) (by simp) hlH
  have law := call_law hp a v ha hH
  refine callF hx hn hfr hf S1 (ids := [0, 5]) (by simp) hidl ?_ hfi' (args := [.obj 2, .int a, .int v]) (d' := calledD hp a v) (os₁ := [.frame o, .ints (calledL hp a v)]) rfl ?_ (calledD_refs hp a v) (fun oL => called_ok x.w (n + 2) oL o hp a v ha (by omega)) (.cons ⟨l, hl1, rfl⟩ (.cons ⟨ta, rfl⟩ (.cons ⟨tv, rfl⟩ .nil))) fun v1 s2 news2 ea S2 rv => ?_
  · intro j hj
    simp at hj
    rcases hj with rfl | rfl
    · exact ⟨rfl, fun _ => rfl⟩
    · exact ⟨rfl, fun _ => rfl⟩
  · intro ao hao
    simp at hao
    rcases hao with rfl | rfl
    · exact ⟨rfl, fun _ => rfl⟩
    · exact ⟨rfl, fun _ => rfl⟩
  have S2 : Sim x (stC r0 r1 r2 r3 t N z a v 4 5 o cs (srt hp) i [.ints []] (calledL hp a v)) s2 m1 news2 := S2
  have rv : Rel (ads news2) v1 (plainD (srt hp) a v) := by rw [ea, ← law.1]; exact rv
  have hsl : (srt hp).length < 60 := by rw [(srt_perm hp).length_eq]; omega
  have tail : ∀ dp, plainD (srt hp) a v = dp → (dp = .none ∨ (∃ k, dp = .int k) ∨ ∃ u, dp = .str u) → wpAny (model pw x.w) x.A (eval (cmR (iTest (st1 L39 3))) x.env) (fun b s₂ => wpAny (model pw x.w) x.A (compareOp .NotEq v1 b) (fun c s₃ => wpAny (model pw x.w) x.A (truthy c) (fun b s₂ => if b = true then wpAny (model pw x.w) x.A (execs (iBody (st1 L39 3)) x.env) (fun f s' => match f with | .next => wpAny (model pw x.w) x.A (execs [] x.env) Q E s' | f => Q f s') E s₂ else wpAny (model pw x.w) x.A (execs [] x.env) (fun f s' => match f with | .next => wpAny (model pw x.w) x.A (execs [] x.env) Q E s' | f => Q f s') E s₂) E s₃) E s₂) E s2 := fun dp e hdp => by
    rw [e] at rv
    refine (good (c := g39 0 [] dp) hx hN 40).ev _ _ news2 (fun d σ => d = dp ∧ σ = stC r0 r1 r2 r3 t N z a v 4 5 o cs (plainL (srt hp) a v) i [.ints []] (calledL hp a v)) (ok_eq (t' := .need (plainD (srt hp) a v = dp ∧ 0 ≤ a ∧ a < 5 ∧ (srt hp).length < 60) (.call 823 [.obj 0, .int a, .int v] [.ints (srt hp)] dp [.ints (plainL (srt hp) a v)] (.ret dp (stC r0 r1 r2 r3 t N z a v 4 5 o cs (plainL (srt hp) a v) i [.ints []] (calledL hp a v))))) ?_ ?_) s2 _ E m1 S2 ?_
    · rcases hdp with rfl | ⟨k, rfl⟩ | ⟨u, rfl⟩ <;> kernel_rfl!
    · exact ok_need ⟨e, ha.1, ha.2, hsl⟩ ⟨⟨n + 5, hn, by rw [← e]; exact plain_ok x.w _ (srt hp) a v ha hsl⟩, rfl, rfl⟩
    rintro v2 s3 m3 news3 d σ' ⟨rfl, rfl⟩ S3 pre3 rl3
    have pa : x.a0 <+: ads news3 := (a0.trans pre1).trans (by rw [← ea]; exact pre3)
    have fin : ∀ (bd : D) (kb : Kb), kb.val = false → cmpO .NotEq d d (stC r0 r1 r2 r3 t N z a v 4 5 o cs (plainL (srt hp) a v) i [.ints []] (calledL hp a v)) = .ret bd (stC r0 r1 r2 r3 t N z a v 4 5 o cs (plainL (srt hp) a v) i [.ints []] (calledL hp a v)) →
        truthyO bd (stC r0 r1 r2 r3 t N z a v 4 5 o cs (plainL (srt hp) a v) i [.ints []] (calledL hp a v)) = .ret kb (stC r0 r1 r2 r3 t N z a v 4 5 o cs (plainL (srt hp) a v) i [.ints []] (calledL hp a v)) →
        wpAny (model pw x.w) x.A (compareOp .NotEq v1 v2) (fun c s₃ => wpAny (model pw x.w) x.A (truthy c) (fun b s₂ => if b = true then wpAny (model pw x.w) x.A (execs (iBody (st1 L39 3)) x.env) (fun f s' => match f with | .next => wpAny (model pw x.w) x.A (execs [] x.env) Q E s' | f => Q f s') E s₂ else wpAny (model pw x.w) x.A (execs [] x.env) (fun f s' => match f with | .next => wpAny (model pw x.w) x.A (execs [] x.env) Q E s' | f => Q f s') E s₂) E s₃) E s3 := fun bd kb hk e1 e2 => by
      refine cmpO_sound hx .NotEq (rv.mono pre3) rl3 (fun d' σ' => d' = bd ∧ σ' = stC r0 r1 r2 r3 t N z a v 4 5 o cs (plainL (srt hp) a v) i [.ints []] (calledL hp a v)) (ok_eq e1 ⟨rfl, rfl⟩) s3 _ E m3 S3 ?_
      rintro c s4 m4 news4 d4 σ4 ⟨rfl, rfl⟩ S4 pre4 rl4
      refine truthyO_sound rl4 (fun b' σ' => b'.val = false ∧ σ' = stC r0 r1 r2 r3 t N z a v 4 5 o cs (plainL (srt hp) a v) i [.ints []] (calledL hp a v)) (ok_eq e2 ⟨hk, rfl⟩) s4 _ E m4 S4 ?_
      rintro b s5 m5 news5 b' σ5 ⟨hb', rfl⟩ S5 pre5 rb
      have rb : b = b'.val := rb
      rw [rb, hb', if_neg (by simp)]
      exact wpAny_execs_nil (wpAny_execs_nil (post _ s5 m5 news5 .next _ h S5 ((pa.trans pre4).trans pre5) trivial))
    rcases hdp with rfl | ⟨k, rfl⟩ | ⟨u, rfl⟩
    · exact fin .ff .no rfl rfl rfl
    · exact fin (.bool (!decide (k = k))) (.dyn (!decide (k = k))) (by simp [Kb.val]) rfl rfl
    · exact fin (.bool (!decide (u = u))) (.dyn (!decide (u = u))) (by simp [Kb.val]) rfl rfl
  exact tail _ rfl (plainD_cases (srt hp) a v)
theorem cmp_q {x : Fx} (hx : x.Ok) {n : Nat} (hn : x.n = n + 6) (hN : x.env.scope.names = (g39 0 [] .none).N) {outer : List Env} (hfr : x.A.frames = some (x.env :: outer)) (hf : x.env.frame = some x.env.locals) (hol : outer.length = 1) (hfi : FrIs outer x.a0)
    (r0 r1 r2 r3 : Nat) (o : Obj) (cs : List Int) (i : Nat) (t N z a v : Int) (hp ld : List Int) (ha : 0 ≤ a ∧ a < 5) (hl : hp.length < 50) (hH : HeapOk hp) {P : Fl → St → Prop} (h : P .next (stC r0 r1 r2 r3 t N z a v 5 6 o cs (plainL (srt hp) a v) i [.ints [], .ints ld] (calledL hp a v))) :
    ExOk x [st1 L39 3] (stC r0 r1 r2 r3 t N z a v 5 6 o cs (srt hp) i [.ints [], .ints ld] hp) P := by
  intro s Q E m news S a0 post
  have eC : [st1 L39 3] = [.If (.Compare (.Call (caFn X39) (hdE (caArgs X39) :: (caArgs X39).drop 1) [] (clPos X39)) [.NotEq] [cmR (iTest (st1 L39 3))] (cmPos (iTest (st1 L39 3)))) (iBody (st1 L39 3)) [] (iPos (st1 L39 3))] := by kernel_rfl!
  rw [eC]
  refine wpAny_execs_cons (wpAny_If (wpAny_isTrue_Compare1 ?_ (by kernel_rfl!)))
  refine call_top (c := g39 0 [] .none) hx hN (f := 816) (ds := [.obj 6, .int a, .int v]) (by kernel_rfl!) (by kernel_rfl!) (by kernel_rfl!) (by kernel_rfl!) (notAttr_ne (by kernel_rfl!)) S fun s1 m1 news1 vals S1 pre1 ra => ?_
  obtain ⟨l, ta, tv, rfl, hlH⟩ : ∃ l ta tv, vals = [.ref l, .int a ta, .int v tv] ∧ (ads news1)[6]? = some l := by
    cases ra with
    | cons q1 q2 =>
      obtain ⟨v2, v3, rfl, ⟨ta, rfl⟩, ⟨tv, rfl⟩⟩ := all2_2 q2
      obtain ⟨l, hl, rfl⟩ := q1
      exact ⟨l, ta, tv, rfl, hl⟩
  obtain ⟨env0, rfl⟩ : ∃ env0, outer = [env0] := List.length_eq_one_iff.mp hol
  have hidl : ∀ i ∈ [0, 6], i < (stC r0 r1 r2 r3 t N z a v 5 6 o cs (srt hp) i [.ints [], .ints ld] hp).objs.length := by
    intro j hj
    show j < 6 + 1
    simp at hj; omega
  have hfi' : FrIs [env0] (ads (subN news1 [0, 6])) := by
    have f1 := frIs_pre hfi (a0.trans pre1)
    cases hn1 : ads news1 with
    | nil => rw [hn1] at f1; exact f1.elim
    | cons b bs =>
      rw [hn1] at f1
      have := ads_sub S1 hidl (i := 0) (by simp) (a := b) (by rw [hn1]; rfl)
      have e0 : pos [0, 6] 0 = 0 := by rfl
      rw [e0] at this
      cases hs : ads (subN news1 [0, 6]) with
      | nil => rw [hs] at this; cases this
      | cons b' bs' =>
        rw [hs] at this
        cases this
        exact ⟨f1.1, f1.2.1, trivial⟩
  have hl1 : (x.env.locals :: ads (subN news1 [0, 6]))[2]? = some l := ads_sub S1 hidl (i := 6) (by simp) hlH
  have law := call_law hp a v ha hH
  refine callF hx hn hfr hf S1 (ids := [0, 6]) (by simp) hidl ?_ hfi' (args := [.obj 2, .int a, .int v]) (d' := calledD hp a v) (os₁ := [.frame o, .ints (calledL hp a v)]) rfl ?_ (calledD_refs hp a v) (fun oL => called_ok x.w (n + 2) oL o hp a v ha (by omega)) (.cons ⟨l, hl1, rfl⟩ (.cons ⟨ta, rfl⟩ (.cons ⟨tv, rfl⟩ .nil))) fun v1 s2 news2 ea S2 rv => ?_
  · intro j hj
    simp at hj
    rcases hj with rfl | rfl
    · exact ⟨rfl, fun _ => rfl⟩
    · exact ⟨rfl, fun _ => rfl⟩
  · intro ao hao
    simp at hao
    rcases hao with rfl | rfl
    · exact ⟨rfl, fun _ => rfl⟩
    · exact ⟨rfl, fun _ => rfl⟩
  have S2 : Sim x (stC r0 r1 r2 r3 t N z a v 5 6 o cs (srt hp) i [.ints [], .ints ld] (calledL hp a v)) s2 m1 news2 := S2
  have rv : Rel (ads news2) v1 (plainD (srt hp) a v) := by rw [ea, ← law.1]; exact rv
  have hsl : (srt hp).length < 60 := by rw [(srt_perm hp).length_eq]; omega
  have tail : ∀ dp, plainD (srt hp) a v = dp → (dp = .none ∨ (∃ k, dp = .int k) ∨ ∃ u, dp = .str u) → wpAny (model pw x.w) x.A (eval (cmR (iTest (st1 L39 3))) x.env) (fun b s₂ => wpAny (model pw x.w) x.A (compareOp .NotEq v1 b) (fun c s₃ => wpAny (model pw x.w) x.A (truthy c) (fun b s₂ => if b = true then wpAny (model pw x.w) x.A (execs (iBody (st1 L39 3)) x.env) (fun f s' => match f with | .next => wpAny (model pw x.w) x.A (execs [] x.env) Q E s' | f => Q f s') E s₂ else wpAny (model pw x.w) x.A (execs [] x.env) (fun f s' => match f with | .next => wpAny (model pw x.w) x.A (execs [] x.env) Q E s' | f => Q f s') E s₂) E s₃) E s₂) E s2 := fun dp e hdp => by
    rw [e] at rv
    refine (good (c := g39 0 [] dp) hx hN 40).ev _ _ news2 (fun d σ => d = dp ∧ σ = stC r0 r1 r2 r3 t N z a v 5 6 o cs (plainL (srt hp) a v) i [.ints [], .ints ld] (calledL hp a v)) (ok_eq (t' := .need (plainD (srt hp) a v = dp ∧ 0 ≤ a ∧ a < 5 ∧ (srt hp).length < 60) (.call 823 [.obj 0, .int a, .int v] [.ints (srt hp)] dp [.ints (plainL (srt hp) a v)] (.ret dp (stC r0 r1 r2 r3 t N z a v 5 6 o cs (plainL (srt hp) a v) i [.ints [], .ints ld] (calledL hp a v))))) ?_ ?_) s2 _ E m1 S2 ?_
    · rcases hdp with rfl | ⟨k, rfl⟩ | ⟨u, rfl⟩ <;> kernel_rfl!
    · exact ok_need ⟨e, ha.1, ha.2, hsl⟩ ⟨⟨n + 5, hn, by rw [← e]; exact plain_ok x.w _ (srt hp) a v ha hsl⟩, rfl, rfl⟩
    rintro v2 s3 m3 news3 d σ' ⟨rfl, rfl⟩ S3 pre3 rl3
    have pa : x.a0 <+: ads news3 := (a0.trans pre1).trans (by rw [← ea]; exact pre3)
    have fin : ∀ (bd : D) (kb : Kb), kb.val = false → cmpO .NotEq d d (stC r0 r1 r2 r3 t N z a v 5 6 o cs (plainL (srt hp) a v) i [.ints [], .ints ld] (calledL hp a v)) = .ret bd (stC r0 r1 r2 r3 t N z a v 5 6 o cs (plainL (srt hp) a v) i [.ints [], .ints ld] (calledL hp a v)) →
        truthyO bd (stC r0 r1 r2 r3 t N z a v 5 6 o cs (plainL (srt hp) a v) i [.ints [], .ints ld] (calledL hp a v)) = .ret kb (stC r0 r1 r2 r3 t N z a v 5 6 o cs (plainL (srt hp) a v) i [.ints [], .ints ld] (calledL hp a v)) →
        wpAny (model pw x.w) x.A (compareOp .NotEq v1 v2) (fun c s₃ => wpAny (model pw x.w) x.A (truthy c) (fun b s₂ => if b = true then wpAny (model pw x.w) x.A (execs (iBody (st1 L39 3)) x.env) (fun f s' => match f with | .next => wpAny (model pw x.w) x.A (execs [] x.env) Q E s' | f => Q f s') E s₂ else wpAny (model pw x.w) x.A (execs [] x.env) (fun f s' => match f with | .next => wpAny (model pw x.w) x.A (execs [] x.env) Q E s' | f => Q f s') E s₂) E s₃) E s3 := fun bd kb hk e1 e2 => by
      refine cmpO_sound hx .NotEq (rv.mono pre3) rl3 (fun d' σ' => d' = bd ∧ σ' = stC r0 r1 r2 r3 t N z a v 5 6 o cs (plainL (srt hp) a v) i [.ints [], .ints ld] (calledL hp a v)) (ok_eq e1 ⟨rfl, rfl⟩) s3 _ E m3 S3 ?_
      rintro c s4 m4 news4 d4 σ4 ⟨rfl, rfl⟩ S4 pre4 rl4
      refine truthyO_sound rl4 (fun b' σ' => b'.val = false ∧ σ' = stC r0 r1 r2 r3 t N z a v 5 6 o cs (plainL (srt hp) a v) i [.ints [], .ints ld] (calledL hp a v)) (ok_eq e2 ⟨hk, rfl⟩) s4 _ E m4 S4 ?_
      rintro b s5 m5 news5 b' σ5 ⟨hb', rfl⟩ S5 pre5 rb
      have rb : b = b'.val := rb
      rw [rb, hb', if_neg (by simp)]
      exact wpAny_execs_nil (wpAny_execs_nil (post _ s5 m5 news5 .next _ h S5 ((pa.trans pre4).trans pre5) trivial))
    rcases hdp with rfl | ⟨k, rfl⟩ | ⟨u, rfl⟩
    · exact fin .ff .no rfl rfl rfl
    · exact fin (.bool (!decide (k = k))) (.dyn (!decide (k = k))) (by simp [Kb.val]) rfl rfl
    · exact fin (.bool (!decide (u = u))) (.dyn (!decide (u = u))) (by simp [Kb.val]) rfl rfl
  exact tail _ rfl (plainD_cases (srt hp) a v)
end
end Mine
namespace Mine
noncomputable section
noncomputable def actZ (z : Int) : Int := z.fmod 5
noncomputable def valZ (z : Int) : Int := (z.fdiv 5).fmod 4096
noncomputable def numL (r0 r1 r2 r3 : Nat) (t : Int) (hp : List Int) : Int := rd (laidN r0 r1 r2 r3 t hp) 0
theorem hear {r0 r1 r2 r3 : Nat} (ro : Ro r0 r1 r2 r3) (w : World) (n : Nat) (t : Int) (hp : List Int) (hl : hp.length < 40) (hb : ∀ z ∈ hp, 0 ≤ z ∧ z < 4096) (zz : Int) (hz : zz.natAbs = (numL r0 r1 r2 r3 t hp).natAbs) :
    CallOk w (n + 5) 809 [.int zz, .str [r0, r1, r2, r3]] [] fun d o => d = .obj 0 ∧ o = [.ints hp] := by
  obtain ⟨e1, e2⟩ := laid_heard ro t hp hb (by omega)
  obtain ⟨e3, e4⟩ := laid_facts ro t hp hb (by omega)
  have e5 : (ap zz.natAbs).map UInt8.toNat = laidN r0 r1 r2 r3 t hp := by rw [hz]; exact e1
  have e6 : (ap zz.natAbs).length ≤ 1000 := by
    have := congrArg List.length e5
    rw [List.length_map] at this
    omega
  refine (he_ok w n zz ro e6 (hp.map wordOf) (by simp; omega) (fun u hu => ?_) (by rw [e5]; exact e2)).mono ?_
  · obtain ⟨z, _, rfl⟩ := List.mem_map.mp hu
    exact word_letters z
  · rintro d o' ⟨rfl, rfl⟩
    refine ⟨rfl, ?_⟩
    rw [List.map_map]
    have : hp.map ((fun u => rd u 0) ∘ wordOf) = hp := by
      refine (List.map_congr_left fun z hz => ?_).trans (List.map_id hp)
      exact rd_word (hb z hz).1
    rw [this]
theorem z_facts (z : Int) : (0 ≤ actZ z ∧ actZ z < 5) ∧ 0 ≤ valZ z ∧ valZ z < 4096 := by
  unfold actZ valZ
  rw [Int.fmod_eq_emod_of_nonneg _ (by decide), Int.fmod_eq_emod_of_nonneg _ (by decide)]
  omega
theorem turn_p {x : Fx} (hx : x.Ok) {n : Nat} (hn : x.n = n + 6) (hN : x.env.scope.names = (g39 0 [] .none).N) (ha0 : x.a0.length = 5) {outer : List Env} (hfr : x.A.frames = some (x.env :: outer)) (hf : x.env.frame = some x.env.locals) (hol : outer.length = 1) (hfi : FrIs outer x.a0)
    {r0 r1 r2 r3 : Nat} (ro : Ro r0 r1 r2 r3) (o : Obj) (cs : List Int) (i : Nat) (t z : Int) (hp : List Int) (hH : HeapOk hp) (hl : hp.length < 40) (hb : ∀ z ∈ hp, 0 ≤ z ∧ z < 4096) (hnil : hp = []) :
    ExOk x L39 ⟨rnLoc r0 r1 r2 r3 t 4 (numL r0 r1 r2 r3 t hp) ++ [(S "x", .int z)], [], rnOs o cs (srt hp) i [.ints []]⟩ (fun f σ => f = .next ∧ Cut 5 σ (fun σ' => σ' = ⟨rnLoc r0 r1 r2 r3 t 5 (numL r0 r1 r2 r3 t (calledL hp (actZ z) (valZ z))), [], rnOs o cs (srt (calledL hp (actZ z) (valZ z))) i [.ints [], .ints (calledL hp (actZ z) (valZ z))]⟩)) := by
  obtain ⟨hz1, hz2⟩ := z_facts z
  obtain ⟨l1, l2, l3, l4, l5⟩ := call_law hp (actZ z) (valZ z) hz1 hH
  have hb' : ∀ y ∈ calledL hp (actZ z) (valZ z), 0 ≤ y ∧ y < 4096 := fun y hy => (l5 y hy).elim (hb y) fun e => by rw [e]; exact hz2
  have eL : L39 = L39.take 2 ++ ([st1 L39 2] ++ ([st1 L39 3] ++ [st1 L39 4])) := by kernel_rfl!
  rw [eL]
  have rest : ExOk x ([st1 L39 2] ++ ([st1 L39 3] ++ [st1 L39 4])) (stC r0 r1 r2 r3 t (numL r0 r1 r2 r3 t hp) z (actZ z) (valZ z) 4 5 o cs (srt hp) i [.ints []] hp) (fun f σ => f = .next ∧ Cut 5 σ (fun σ' => σ' = ⟨rnLoc r0 r1 r2 r3 t 5 (numL r0 r1 r2 r3 t (calledL hp (actZ z) (valZ z))), [], rnOs o cs (srt (calledL hp (actZ z) (valZ z))) i [.ints [], .ints (calledL hp (actZ z) (valZ z))]⟩)) := by
    refine ExOk.app (ExOk.tree (c := g39 0 [] .none) hx hN (n := 40) (ok_path (ws := [false]) (t' := .need ([] = hp ∧ srt hp = srt hp ∧ HeapOk hp ∧ hp.length < 60) (.call 828 [.obj 0, .obj 1, .obj 2] [.ints hp, .ints [], .ints (srt hp)] (.bool true) [.ints hp, .ints [], .ints (srt hp)] (.need ((!true) = false) (.ret .next (stC r0 r1 r2 r3 t (numL r0 r1 r2 r3 t hp) z (actZ z) (valZ z) 4 5 o cs (srt hp) i [.ints []] hp))))) (by kernel_rfl!) ?_))
    have hR := right_ok x.w (n + 5) hp hH (by omega)
    refine ok_need ⟨hnil.symm, rfl, hH, by omega⟩ ⟨⟨n + 5, hn, by subst hnil; exact hR⟩, ok_need rfl ?_⟩
    show ExOk x _ _ _
    refine ExOk.app (cmp_p hx hn hN hfr hf hol hfi r0 r1 r2 r3 o cs i t _ z (actZ z) (valZ z) hp hp hz1 (by omega) hH ?_)
    show ExOk x _ _ _
    rw [← l3]
    refine ExOk.tree (c := g39 0 [] .none) hx hN (n := 40) (ok_eq (t' := .need ((calledL hp (actZ z) (valZ z)).length ≤ 50 ∧ ∀ y ∈ calledL hp (actZ z) (valZ z), 0 ≤ y ∧ y < 4096) (.call 804 [.obj 0, .str [r0, r1, r2, r3], .int t] [.ints (calledL hp (actZ z) (valZ z))] (.int (numL r0 r1 r2 r3 t (calledL hp (actZ z) (valZ z)))) [.ints (calledL hp (actZ z) (valZ z))] (.need ([D.int (numL r0 r1 r2 r3 t (calledL hp (actZ z) (valZ z))), D.obj 5].length ≤ sizeLine) (.ret .next ⟨rnLoc r0 r1 r2 r3 t 5 (numL r0 r1 r2 r3 t (calledL hp (actZ z) (valZ z))) ++ [(S "x", .int z), (S "value", .int (valZ z)), (S "act", .int (actZ z)), (S "heap", .obj 5)], [], rnOs o cs (srt (calledL hp (actZ z) (valZ z))) i ([.ints []] ++ [.ints (calledL hp (actZ z) (valZ z)), .tup [.int (numL r0 r1 r2 r3 t (calledL hp (actZ z) (valZ z))), .obj 5]])⟩)))) (by kernel_rfl!) ?_)
    obtain ⟨f1, f2⟩ := laid_facts ro t (calledL hp (actZ z) (valZ z)) hb' (by omega)
    refine ok_need ⟨by omega, hb'⟩ ⟨⟨n + 5, hn, laid_ok x.w (n + 3) _ r0 r1 r2 r3 t (by omega) (fun y hy => Nat.le_trans (ap_len3 (by have := hb' y hy; omega)) (by decide)) f1⟩, ok_need (show 2 ≤ sizeLine by decide) ⟨rfl, [0, 1, 2, 3, 4, 5], 6, by rfl, by rfl⟩⟩
  have neg : (-(numL r0 r1 r2 r3 t hp)).natAbs = (numL r0 r1 r2 r3 t hp).natAbs := Int.natAbs_neg _
  by_cases hc : z.fmod 2 = 0
  · refine ExOk.app (ExOk.tree (c := g39 (numL r0 r1 r2 r3 t hp).natAbs hp .none) hx hN (n := 40) (ok_path (ws := [false]) (t' := (fun (row : List Int) (N : Int) (n : Nat) => (.need ((5 : Int) ≠ (0 : Int)) ( .need ((5 : Int) ≠ (0 : Int) ∧ Builtin.divisionGoesByPylong z (5 : Int) = false) ( .need ((4096 : Int) ≠ (0 : Int)) ( .need ([D.int (z.fmod (5 : Int)), D.int ((z.fdiv (5 : Int)).fmod (4096 : Int))].length ≤ sizeLine) ( .need ((2 : Int) ≠ (0 : Int)) ( .need ((!decide (z.fmod (2 : Int) = (0 : Int))) = false) ( .need (N.natAbs = n) ( .call 809 [(.int (N)), (.str ([r0, r1, r2, r3]))] [] (.obj 0) [(.ints (hp))] ( .ret .next ⟨[(S "calls", (.obj 1)), (S "roles", (.str ([r0, r1, r2, r3]))), (S "turn", (.int (t))), (S "row", (.obj 2)), (S "laid", (.obj 4)), (S "number", (.int (N))), (S "x", (.int (z))), (S "value", (.int ((z.fdiv (5 : Int)).fmod (4096 : Int)))), (S "act", (.int (z.fmod (5 : Int)))), (S "heap", (.obj 6))], [], [(AO.frame o), (.ints (cs)), (.ints (row)), (AO.it (ItK.list (1 : Nat)) i), (.ints ([])), (.tup [(.int (z.fmod (5 : Int))), (.int ((z.fdiv (5 : Int)).fmod (4096 : Int)))]), (.ints (hp))]⟩)))))))) : T Fl)) (srt hp) (numL r0 r1 r2 r3 t hp) (numL r0 r1 r2 r3 t hp).natAbs) (by kernel_rfl!) ?_))
    refine ok_need (by decide) (ok_need ⟨by decide, PyProof.noPylong_small (by decide)⟩ (ok_need (by decide) (ok_need (show 2 ≤ sizeLine by decide) (ok_need (by decide) (ok_need (by simp [hc]) (ok_need rfl ⟨⟨n + 5, hn, hear ro x.w n t hp hl hb _ rfl⟩, ?_⟩))))))
    show ExOk x _ _ _
    exact ExOk.cut hx (k := 5) (n := 10) [0, 1, 2, 3, 4, 6] ha0 (by rfl) rest
  · refine ExOk.app (ExOk.tree (c := g39 (numL r0 r1 r2 r3 t hp).natAbs hp .none) hx hN (n := 40) (ok_path (ws := [true]) (t' := (fun (row : List Int) (N : Int) (n : Nat) => (.need ((5 : Int) ≠ (0 : Int)) ( .need ((5 : Int) ≠ (0 : Int) ∧ Builtin.divisionGoesByPylong z (5 : Int) = false) ( .need ((4096 : Int) ≠ (0 : Int)) ( .need ([D.int (z.fmod (5 : Int)), D.int ((z.fdiv (5 : Int)).fmod (4096 : Int))].length ≤ sizeLine) ( .need ((2 : Int) ≠ (0 : Int)) ( .need ((!decide (z.fmod (2 : Int) = (0 : Int))) = true) ( .need ((-N).natAbs = n) ( .call 809 [(.int (-N)), (.str ([r0, r1, r2, r3]))] [] (.obj 0) [(.ints (hp))] ( .ret .next ⟨[(S "calls", (.obj 1)), (S "roles", (.str ([r0, r1, r2, r3]))), (S "turn", (.int (t))), (S "row", (.obj 2)), (S "laid", (.obj 4)), (S "number", (.int (N))), (S "x", (.int (z))), (S "value", (.int ((z.fdiv (5 : Int)).fmod (4096 : Int)))), (S "act", (.int (z.fmod (5 : Int)))), (S "heap", (.obj 6))], [], [(AO.frame o), (.ints (cs)), (.ints (row)), (AO.it (ItK.list (1 : Nat)) i), (.ints ([])), (.tup [(.int (z.fmod (5 : Int))), (.int ((z.fdiv (5 : Int)).fmod (4096 : Int)))]), (.ints (hp))]⟩)))))))) : T Fl)) (srt hp) (numL r0 r1 r2 r3 t hp) (numL r0 r1 r2 r3 t hp).natAbs) (by kernel_rfl!) ?_))
    refine ok_need (by decide) (ok_need ⟨by decide, PyProof.noPylong_small (by decide)⟩ (ok_need (by decide) (ok_need (show 2 ≤ sizeLine by decide) (ok_need (by decide) (ok_need (by simp [hc]) (ok_need neg ⟨⟨n + 5, hn, hear ro x.w n t hp hl hb _ neg⟩, ?_⟩))))))
    show ExOk x _ _ _
    exact ExOk.cut hx (k := 5) (n := 10) [0, 1, 2, 3, 4, 6] ha0 (by rfl) rest
theorem turn_q {x : Fx} (hx : x.Ok) {n : Nat} (hn : x.n = n + 6) (hN : x.env.scope.names = (g39 0 [] .none).N) (ha0 : x.a0.length = 5) {outer : List Env} (hfr : x.A.frames = some (x.env :: outer)) (hf : x.env.frame = some x.env.locals) (hol : outer.length = 1) (hfi : FrIs outer x.a0)
    {r0 r1 r2 r3 : Nat} (ro : Ro r0 r1 r2 r3) (o : Obj) (cs : List Int) (i : Nat) (t z : Int) (hp : List Int) (hH : HeapOk hp) (hl : hp.length < 40) (hb : ∀ z ∈ hp, 0 ≤ z ∧ z < 4096)  :
    ExOk x L39 ⟨rnLoc r0 r1 r2 r3 t 5 (numL r0 r1 r2 r3 t hp) ++ [(S "x", .int z)], [], rnOs o cs (srt hp) i [.ints [], .ints hp]⟩ (fun f σ => f = .next ∧ Cut 5 σ (fun σ' => σ' = ⟨rnLoc r0 r1 r2 r3 t 5 (numL r0 r1 r2 r3 t (calledL hp (actZ z) (valZ z))), [], rnOs o cs (srt (calledL hp (actZ z) (valZ z))) i [.ints [], .ints (calledL hp (actZ z) (valZ z))]⟩)) := by
  obtain ⟨hz1, hz2⟩ := z_facts z
  obtain ⟨l1, l2, l3, l4, l5⟩ := call_law hp (actZ z) (valZ z) hz1 hH
  have hb' : ∀ y ∈ calledL hp (actZ z) (valZ z), 0 ≤ y ∧ y < 4096 := fun y hy => (l5 y hy).elim (hb y) fun e => by rw [e]; exact hz2
  have eL : L39 = L39.take 2 ++ ([st1 L39 2] ++ ([st1 L39 3] ++ [st1 L39 4])) := by kernel_rfl!
  rw [eL]
  have rest : ExOk x ([st1 L39 2] ++ ([st1 L39 3] ++ [st1 L39 4])) (stC r0 r1 r2 r3 t (numL r0 r1 r2 r3 t hp) z (actZ z) (valZ z) 5 6 o cs (srt hp) i [.ints [], .ints hp] hp) (fun f σ => f = .next ∧ Cut 5 σ (fun σ' => σ' = ⟨rnLoc r0 r1 r2 r3 t 5 (numL r0 r1 r2 r3 t (calledL hp (actZ z) (valZ z))), [], rnOs o cs (srt (calledL hp (actZ z) (valZ z))) i [.ints [], .ints (calledL hp (actZ z) (valZ z))]⟩)) := by
    refine ExOk.app (ExOk.tree (c := g39 0 [] .none) hx hN (n := 40) (ok_path (ws := [false]) (t' := .need (hp = hp ∧ srt hp = srt hp ∧ HeapOk hp ∧ hp.length < 60) (.call 828 [.obj 0, .obj 1, .obj 2] [.ints hp, .ints hp, .ints (srt hp)] (.bool true) [.ints hp, .ints hp, .ints (srt hp)] (.need ((!true) = false) (.ret .next (stC r0 r1 r2 r3 t (numL r0 r1 r2 r3 t hp) z (actZ z) (valZ z) 5 6 o cs (srt hp) i [.ints [], .ints hp] hp))))) (by kernel_rfl!) ?_))
    have hR := right_ok x.w (n + 5) hp hH (by omega)
    refine ok_need ⟨rfl, rfl, hH, by omega⟩ ⟨⟨n + 5, hn, hR⟩, ok_need rfl ?_⟩
    show ExOk x _ _ _
    refine ExOk.app (cmp_q hx hn hN hfr hf hol hfi r0 r1 r2 r3 o cs i t _ z (actZ z) (valZ z) hp hp hz1 (by omega) hH ?_)
    show ExOk x _ _ _
    rw [← l3]
    refine ExOk.tree (c := g39 0 [] .none) hx hN (n := 40) (ok_eq (t' := .need ((calledL hp (actZ z) (valZ z)).length ≤ 50 ∧ ∀ y ∈ calledL hp (actZ z) (valZ z), 0 ≤ y ∧ y < 4096) (.call 804 [.obj 0, .str [r0, r1, r2, r3], .int t] [.ints (calledL hp (actZ z) (valZ z))] (.int (numL r0 r1 r2 r3 t (calledL hp (actZ z) (valZ z)))) [.ints (calledL hp (actZ z) (valZ z))] (.need ([D.int (numL r0 r1 r2 r3 t (calledL hp (actZ z) (valZ z))), D.obj 6].length ≤ sizeLine) (.ret .next ⟨rnLoc r0 r1 r2 r3 t 6 (numL r0 r1 r2 r3 t (calledL hp (actZ z) (valZ z))) ++ [(S "x", .int z), (S "value", .int (valZ z)), (S "act", .int (actZ z)), (S "heap", .obj 6)], [], rnOs o cs (srt (calledL hp (actZ z) (valZ z))) i ([.ints [], .ints hp] ++ [.ints (calledL hp (actZ z) (valZ z)), .tup [.int (numL r0 r1 r2 r3 t (calledL hp (actZ z) (valZ z))), .obj 6]])⟩)))) (by kernel_rfl!) ?_)
    obtain ⟨f1, f2⟩ := laid_facts ro t (calledL hp (actZ z) (valZ z)) hb' (by omega)
    refine ok_need ⟨by omega, hb'⟩ ⟨⟨n + 5, hn, laid_ok x.w (n + 3) _ r0 r1 r2 r3 t (by omega) (fun y hy => Nat.le_trans (ap_len3 (by have := hb' y hy; omega)) (by decide)) f1⟩, ok_need (show 2 ≤ sizeLine by decide) ⟨rfl, [0, 1, 2, 3, 4, 6], 6, by rfl, by rfl⟩⟩
  have neg : (-(numL r0 r1 r2 r3 t hp)).natAbs = (numL r0 r1 r2 r3 t hp).natAbs := Int.natAbs_neg _
  by_cases hc : z.fmod 2 = 0
  · refine ExOk.app (ExOk.tree (c := g39 (numL r0 r1 r2 r3 t hp).natAbs hp .none) hx hN (n := 40) (ok_path (ws := [false]) (t' := (fun (row : List Int) (N : Int) (n : Nat) => (.need ((5 : Int) ≠ (0 : Int)) ( .need ((5 : Int) ≠ (0 : Int) ∧ Builtin.divisionGoesByPylong z (5 : Int) = false) ( .need ((4096 : Int) ≠ (0 : Int)) ( .need ([D.int (z.fmod (5 : Int)), D.int ((z.fdiv (5 : Int)).fmod (4096 : Int))].length ≤ sizeLine) ( .need ((2 : Int) ≠ (0 : Int)) ( .need ((!decide (z.fmod (2 : Int) = (0 : Int))) = false) ( .need (N.natAbs = n) ( .call 809 [(.int (N)), (.str ([r0, r1, r2, r3]))] [] (.obj 0) [(.ints (hp))] ( .ret .next ⟨[(S "calls", (.obj 1)), (S "roles", (.str ([r0, r1, r2, r3]))), (S "turn", (.int (t))), (S "row", (.obj 2)), (S "laid", (.obj 5)), (S "number", (.int (N))), (S "x", (.int (z))), (S "value", (.int ((z.fdiv (5 : Int)).fmod (4096 : Int)))), (S "act", (.int (z.fmod (5 : Int)))), (S "heap", (.obj 7))], [], [(AO.frame o), (.ints (cs)), (.ints (row)), (AO.it (ItK.list (1 : Nat)) i), (.ints ([])), (.ints (hp)), (.tup [(.int (z.fmod (5 : Int))), (.int ((z.fdiv (5 : Int)).fmod (4096 : Int)))]), (.ints (hp))]⟩)))))))) : T Fl)) (srt hp) (numL r0 r1 r2 r3 t hp) (numL r0 r1 r2 r3 t hp).natAbs) (by kernel_rfl!) ?_))
    refine ok_need (by decide) (ok_need ⟨by decide, PyProof.noPylong_small (by decide)⟩ (ok_need (by decide) (ok_need (show 2 ≤ sizeLine by decide) (ok_need (by decide) (ok_need (by simp [hc]) (ok_need rfl ⟨⟨n + 5, hn, hear ro x.w n t hp hl hb _ rfl⟩, ?_⟩))))))
    show ExOk x _ _ _
    exact ExOk.cut hx (k := 5) (n := 10) [0, 1, 2, 3, 4, 5, 7] ha0 (by rfl) rest
  · refine ExOk.app (ExOk.tree (c := g39 (numL r0 r1 r2 r3 t hp).natAbs hp .none) hx hN (n := 40) (ok_path (ws := [true]) (t' := (fun (row : List Int) (N : Int) (n : Nat) => (.need ((5 : Int) ≠ (0 : Int)) ( .need ((5 : Int) ≠ (0 : Int) ∧ Builtin.divisionGoesByPylong z (5 : Int) = false) ( .need ((4096 : Int) ≠ (0 : Int)) ( .need ([D.int (z.fmod (5 : Int)), D.int ((z.fdiv (5 : Int)).fmod (4096 : Int))].length ≤ sizeLine) ( .need ((2 : Int) ≠ (0 : Int)) ( .need ((!decide (z.fmod (2 : Int) = (0 : Int))) = true) ( .need ((-N).natAbs = n) ( .call 809 [(.int (-N)), (.str ([r0, r1, r2, r3]))] [] (.obj 0) [(.ints (hp))] ( .ret .next ⟨[(S "calls", (.obj 1)), (S "roles", (.str ([r0, r1, r2, r3]))), (S "turn", (.int (t))), (S "row", (.obj 2)), (S "laid", (.obj 5)), (S "number", (.int (N))), (S "x", (.int (z))), (S "value", (.int ((z.fdiv (5 : Int)).fmod (4096 : Int)))), (S "act", (.int (z.fmod (5 : Int)))), (S "heap", (.obj 7))], [], [(AO.frame o), (.ints (cs)), (.ints (row)), (AO.it (ItK.list (1 : Nat)) i), (.ints ([])), (.ints (hp)), (.tup [(.int (z.fmod (5 : Int))), (.int ((z.fdiv (5 : Int)).fmod (4096 : Int)))]), (.ints (hp))]⟩)))))))) : T Fl)) (srt hp) (numL r0 r1 r2 r3 t hp) (numL r0 r1 r2 r3 t hp).natAbs) (by kernel_rfl!) ?_))
    refine ok_need (by decide) (ok_need ⟨by decide, PyProof.noPylong_small (by decide)⟩ (ok_need (by decide) (ok_need (show 2 ≤ sizeLine by decide) (ok_need (by decide) (ok_need (by simp [hc]) (ok_need neg ⟨⟨n + 5, hn, hear ro x.w n t hp hl hb _ neg⟩, ?_⟩))))))
    show ExOk x _ _ _
    exact ExOk.cut hx (k := 5) (n := 10) [0, 1, 2, 3, 4, 5, 7] ha0 (by rfl) rest
end
end Mine
namespace Mine
noncomputable section
noncomputable def RunI (r0 r1 r2 r3 : Nat) (o : Obj) (cs : List Int) (t : Int) (i : Nat) (σ : St) : Prop := i ≤ cs.length ∧ ∃ hp, HeapOk hp ∧ hp.length ≤ i ∧ (∀ z ∈ hp, 0 ≤ z ∧ z < 4096) ∧
  ((hp = [] ∧ σ = ⟨rnLoc r0 r1 r2 r3 t 4 (numL r0 r1 r2 r3 t hp), [], rnOs o cs (srt hp) i [.ints []]⟩) ∨ σ = ⟨rnLoc r0 r1 r2 r3 t 5 (numL r0 r1 r2 r3 t hp), [], rnOs o cs (srt hp) i [.ints [], .ints hp]⟩)
theorem run_ok (w : World) (n : Nat) {r0 r1 r2 r3 : Nat} (ro : Ro r0 r1 r2 r3) (o : Obj) (cs : List Int) (t : Int) (hlen : cs.length ≤ 30) : CallOkG w (n + 6) 835 [.obj 1, .str [r0, r1, r2, r3], .int t] [.frame o, .ints cs] (InFr 1) fun d o' => d = .bool true ∧ o' = [.frame o, .ints cs] := by
  have hsz : 1000000 * 4 ≤ sizeLine := by decide
  refine enterG (oc := .type "function") (fd := F835) (body := B39.take 1 ++ ([st1 B39 1] ++ [st1 B39 2])) (names := [S "calls", S "roles", S "turn"]) [] [] .nil (by kernel_rfl!) (by kernel_rfl!) (by kernel_rfl!) (by kernel_rfl!) (by kernel_rfl!) (fun s vals _ h => match vals, h with | [a, b, c], _ => .of_eq (by kernel_rfl!)) fun x hx fr => ?_
  have hN : x.env.scope.names = (g39 0 [] .none).N := by rw [hx.sc]; kernel_rfl!
  obtain ⟨⟨A, eA, outer, h1, h2, h3⟩, hf⟩ := fr
  have hfr : x.A.frames = some (x.env :: outer) := by rw [eA]; exact Around.frames_deeper h1
  have ha : x.a0.length = 2 := hx.a0
  refine ExOk.app (ExOk.tree (c := g39 0 [] .none) hx.ok hN (n := 40) (ok_eq (t' := .need (([] : List Nat).length ≤ sizeLine) (.need (([] : List Nat).length ≤ sizeLine) (.need ([D.int 1, D.obj 2, D.obj 3].length ≤ sizeLine) (.ret .next ⟨[(S "calls", .obj 1), (S "roles", .str [r0, r1, r2, r3]), (S "turn", .int t), (S "row", .obj 3), (S "laid", .obj 2), (S "number", .int 1)], [], [.frame o, .ints cs, .ints [], .ints [], .tup [.int 1, .obj 2, .obj 3]]⟩)))) (by kernel_rfl!) ?_))
  refine ok_need s0n (ok_need s0n (ok_need (show 3 ≤ sizeLine by decide) ?_))
  show ExOk x _ _ _
  have eF : [st1 B39 1] = [.For (.Name (S "x") (tgtPos (st1 B39 1))) (fIter (st1 B39 1)) L39 [] (stPos (st1 B39 1))] := by kernel_rfl!
  rw [eF]
  refine ExOk.app (ExOk.for (c := g39 0 [] .none) hx.ok hN ha 5 3 cs.length (.list 1) (RunI r0 r1 r2 r3 o cs t) (by intro _; rfl) ?_ (fun i σ h => h.1) ?_)
  · refine ok_eq (t' := .ret (.obj 5) ⟨[(S "calls", .obj 1), (S "roles", .str [r0, r1, r2, r3]), (S "turn", .int t), (S "row", .obj 3), (S "laid", .obj 2), (S "number", .int 1)], [], [.frame o, .ints cs, .ints [], .ints [], .tup [.int 1, .obj 2, .obj 3], .it (.list 1) 0]⟩) (by kernel_rfl!) ?_
    exact ⟨[0, 1, 3, 5, 2], 6, 5, rfl, by rfl, by rfl, by rfl, rfl, Nat.zero_le _, [], fun i hi => (by simp at hi), Nat.le_refl _, fun z hz => (by cases hz), .inl ⟨rfl, by rfl⟩⟩
  · rintro x' ag i σ ⟨hi, hp, hH, hpl, hb, hσ⟩
    have hfr' : x'.A.frames = some (x'.env :: outer) := by rw [ag.A, ag.env]; exact hfr
    have hf' : x'.env.frame = some x'.env.locals := by rw [ag.env]; exact hf
    have hN' : x'.env.scope.names = (g39 0 [] .none).N := by rw [ag.env]; exact hN
    have hfi' : FrIs outer x'.a0 := frIs_pre h3 ag.pre
    have hn' : x'.n = n + 6 := ag.n.trans hx.n
    have step : ∀ (z : Int), i < cs.length → ∀ f σ', (f = .next ∧ Cut 5 σ' (fun σ' => σ' = ⟨rnLoc r0 r1 r2 r3 t 5 (numL r0 r1 r2 r3 t (calledL hp (actZ z) (valZ z))), [], rnOs o cs (srt (calledL hp (actZ z) (valZ z))) (i + 1) [.ints [], .ints (calledL hp (actZ z) (valZ z))]⟩)) → fTurn 5 (RunI r0 r1 r2 r3 o cs t (i + 1)) (fun f σ' => onNext f σ' (fun σ' => ExOk x [st1 B39 2] σ' (retOf 2 fun d o' => d = .bool true ∧ o' = [.frame o, .ints cs])) (retOf 2 fun d o' => d = .bool true ∧ o' = [.frame o, .ints cs])) f σ' := by
      rintro z hlt f σ' ⟨rfl, ids, n', c1, c2⟩
      obtain ⟨hz1, hz2⟩ := z_facts z
      obtain ⟨l1, l2, l3, l4, l5⟩ := call_law hp (actZ z) (valZ z) hz1 hH
      exact ⟨ids, n', c1, hlt, _, l2, by omega, fun y hy => (l5 y hy).elim (hb y) fun e => by rw [e]; exact hz2, .inr c2⟩
    have hear' := hear ro x.w n t hp (by omega) hb (numL r0 r1 r2 r3 t hp) rfl
    have hR := right_ok x.w (n + 5) hp hH (by omega)
    rcases hσ with ⟨hnil, rfl⟩ | rfl
    · refine ⟨rfl, rfl, fun d hd => ?_, fun hq => ?_⟩
      · obtain ⟨z, hz, rfl⟩ := item_ints (xs := cs) rfl hd
        refine ok_eq (t' := .ret () ⟨rnLoc r0 r1 r2 r3 t 4 (numL r0 r1 r2 r3 t hp) ++ [(S "x", .int z)], [], rnOs o cs (srt hp) (i + 1) [.ints []]⟩) (by kernel_rfl!) ?_
        exact (turn_p ag.ok hn' hN' ag.a0 hfr' hf' h2 hfi' ro o cs (i + 1) t z hp hH (by omega) hb hnil).mono (step z (List.getElem?_eq_some_iff.mp hz).1)
      · refine ⟨[0, 1, 2, 4], 6, by rfl, by rfl, ?_⟩
        show ExOk x _ _ _
        refine ExOk.tree (c := g39 (numL r0 r1 r2 r3 t hp).natAbs hp .none) hx.ok hN (n := 40) (ok_path (ws := []) (t' := (fun (row : List Int) (N : Int) (n : Nat) => (.need (N.natAbs = n) ( .call 809 [(.int (N)), (.str ([r0, r1, r2, r3]))] [] (.obj 0) [(.ints (hp))] ( .need ([] = hp ∧ row = srt hp ∧ HeapOk hp ∧ hp.length < (60 : Nat)) ( .call 828 [(.obj 0), (.obj 1), (.obj 2)] [(.ints (hp)), (.ints ([])), (.ints (row))] (.bool (true)) [(.ints (hp)), (.ints ([])), (.ints (row))] ( .ret (.ret (.bool (true))) ⟨[(S "calls", (.obj 1)), (S "roles", (.str ([r0, r1, r2, r3]))), (S "turn", (.int (t))), (S "row", (.obj 2)), (S "laid", (.obj 3)), (S "number", (.int (N)))], [], [(AO.frame o), (.ints (cs)), (.ints (row)), (.ints ([])), (.ints (hp))]⟩)))) : T Fl)) (srt hp) (numL r0 r1 r2 r3 t hp) (numL r0 r1 r2 r3 t hp).natAbs) (by kernel_rfl!) ?_)
        exact ok_need rfl ⟨⟨n + 5, hx.n, hear'⟩, ok_need ⟨hnil.symm, rfl, hH, by omega⟩ ⟨⟨n + 5, hx.n, by subst hnil; exact hR⟩, [0, 1], by rfl, by rfl, rfl, rfl⟩⟩
    · refine ⟨rfl, rfl, fun d hd => ?_, fun hq => ?_⟩
      · obtain ⟨z, hz, rfl⟩ := item_ints (xs := cs) rfl hd
        refine ok_eq (t' := .ret () ⟨rnLoc r0 r1 r2 r3 t 5 (numL r0 r1 r2 r3 t hp) ++ [(S "x", .int z)], [], rnOs o cs (srt hp) (i + 1) [.ints [], .ints hp]⟩) (by kernel_rfl!) ?_
        exact (turn_q ag.ok hn' hN' ag.a0 hfr' hf' h2 hfi' ro o cs (i + 1) t z hp hH (by omega) hb).mono (step z (List.getElem?_eq_some_iff.mp hz).1)
      · refine ⟨[0, 1, 2, 4, 5], 6, by rfl, by rfl, ?_⟩
        show ExOk x _ _ _
        refine ExOk.tree (c := g39 (numL r0 r1 r2 r3 t hp).natAbs hp .none) hx.ok hN (n := 40) (ok_path (ws := []) (t' := (fun (row : List Int) (N : Int) (n : Nat) => (.need (N.natAbs = n) ( .call 809 [(.int (N)), (.str ([r0, r1, r2, r3]))] [] (.obj 0) [(.ints (hp))] ( .need (hp = hp ∧ row = srt hp ∧ HeapOk hp ∧ hp.length < (60 : Nat)) ( .call 828 [(.obj 0), (.obj 1), (.obj 2)] [(.ints (hp)), (.ints (hp)), (.ints (row))] (.bool (true)) [(.ints (hp)), (.ints (hp)), (.ints (row))] ( .ret (.ret (.bool (true))) ⟨[(S "calls", (.obj 1)), (S "roles", (.str ([r0, r1, r2, r3]))), (S "turn", (.int (t))), (S "row", (.obj 2)), (S "laid", (.obj 4)), (S "number", (.int (N)))], [], [(AO.frame o), (.ints (cs)), (.ints (row)), (.ints ([])), (.ints (hp)), (.ints (hp))]⟩)))) : T Fl)) (srt hp) (numL r0 r1 r2 r3 t hp) (numL r0 r1 r2 r3 t hp).natAbs) (by kernel_rfl!) ?_)
        exact ok_need rfl ⟨⟨n + 5, hx.n, hear'⟩, ok_need ⟨rfl, rfl, hH, by omega⟩ ⟨⟨n + 5, hx.n, hR⟩, [0, 1], by rfl, by rfl, rfl, rfl⟩⟩
end
end Mine
namespace Mine
noncomputable section
noncomputable def spLw : Specs := fun a args os => match Nat.beq a 780, args, os with
  | true, [.int z], [] => .done (.str (rolesL z)) []
  | _, _, _ => .bad
noncomputable abbrev S40 : Stmt := topSt 40
noncomputable abbrev B40 : List Stmt := bodyOf S40
noncomputable abbrev g40 : Cfg := cfg spLw S40
noncomputable abbrev X40 : Expr := retE (st1 B40 1)
noncomputable def lwD : List Int := [2, 5300, 176, 0, 263, 84, 2]
noncomputable def lwN (xs : List Int) : List Int := xs.take 7 ++ lwD.drop (xs.take 7).length
theorem lwN_len (xs : List Int) : (lwN xs).length = 7 := by
  unfold lwN lwD
  rw [List.length_append, List.length_drop, List.length_take]
  simp only [List.length_cons, List.length_nil]
  omega
section
variable {x : Fx} {c : Cfg}
theorem call_topO (hx : x.Ok) (hN : x.env.scope.names = c.N) {fn e : Expr} {rest : List Expr} {pos : Pos} {σ : St} {f : Addr} {P : List D → St → Prop} (ef : evalM c 40 fn σ = .ret (.top f) σ) (ea : ok x (evalsM c 40 (e :: rest) σ) P) (hns : noStars (e :: rest) = true) (hf : memN callTab f = true)
    (hat : ∀ o n p, fn ≠ .Attribute o n p) {s : Shared} {Q : Value → Shared → Prop} {E : Value → Shared → Prop} {m : Str → Option Value} {news : List (Addr × Obj)} (S : Sim x σ s m news)
    (k : ∀ s' m' news' vals ds σ', P ds σ' → Sim x σ' s' m' news' → ads news <+: ads news' → All2 (Rel (ads news')) vals ds → wpAny (model pw x.w) x.A (call (.ref f) vals) Q E s') : wpAny (model pw x.w) x.A (eval (.Call fn (e :: rest) [] pos) x.env) Q E s := by
  obtain ⟨hs1, hs2⟩ := Bool.and_eq_true_iff.mp hns
  refine Call_ ?_ (call_eq hat)
  refine (good hx hN 40).ev fn σ news (fun d σ' => d = .top f ∧ σ' = σ) (ok_eq ef ⟨rfl, rfl⟩) s _ E m S ?_
  rintro v s1 m1 news1 d σ' ⟨rfl, rfl⟩ S1 pre r
  cases r
  have hk := List.all_eq_true.mp (calls_ok x.w.params) f (memN_iff.mp hf)
  refine callWith_K hx.base.kin hk ?_ (star_cons hs1) (back_plain hs2)
  refine (good hx hN 40).es (e :: rest) pos σ' news1 hns P ea s1 _ E m1 S1 ?_
  rintro vs s2 m2 news2 d2 σ2 p S2 pre2 r2
  exact ⟨hx.base.kin.keeps S2.F.keep, k s2 m2 news2 vs d2 σ2 p S2 (pre.trans pre2) r2⟩
end
theorem law_ok (w : World) (n : Nat) (o : Obj) (xs : List Int) (hl : xs.length ≤ 63) : CallOkG w (n + 7) 842 [.obj 0] [.fixed xs o] (InFr 0) fun d o' => d = .bool true ∧ o' = [.fixed xs o] := by
  have hsz : 1000000 * 4 ≤ sizeLine := by decide
  refine enterG (oc := .type "function") (fd := F842) (body := B40.take 1 ++ [st1 B40 1]) (names := [S "script"]) [] [] .nil (by kernel_rfl!) (by kernel_rfl!) (by kernel_rfl!) (by kernel_rfl!) (by kernel_rfl!) (fun s vals _ h => match vals, h with | [a], _ => .of_eq (by kernel_rfl!)) fun x hx fr => ?_
  have hN : x.env.scope.names = g40.N := by rw [hx.sc]; kernel_rfl!
  obtain ⟨⟨A, eA, outer, h1, h2, h3⟩, hf⟩ := fr
  obtain rfl : outer = [] := List.length_eq_zero_iff.mp h2
  have hfr : x.A.frames = some [x.env] := by rw [eA]; exact Around.frames_deeper h1
  have ha : x.a0.length = 1 := hx.a0
  have t7 : (xs.take 7).length ≤ 7 := List.length_take_le 7 xs
  refine ExOk.app (ExOk.tree (c := g40) hx.ok hN (n := 40) (ok_eq (t' := .need (partOk none (some (7 : Int)) ∧ xs.length ≤ sizeLine) ( .need ([(2 : Int), (5300 : Int), (176 : Int), (0 : Int), (263 : Int), (84 : Int), (2 : Int)].length ≤ sizeLine) ( .need (partOk none (some (7 : Int)) ∧ xs.length ≤ sizeLine) ( .need ((cutL xs none (some (7 : Int))).length ≤ sizeLine) ( .need (partOk (some (↑(cutL xs none (some (7 : Int))).length : Int)) none ∧   [(2 : Int), (5300 : Int), (176 : Int), (0 : Int), (263 : Int), (84 : Int), (2 : Int)].length ≤ sizeLine) ( .need ((cutL xs none (some (7 : Int))).length +     (cutL [(2 : Int), (5300 : Int), (176 : Int), (0 : Int), (263 : Int), (84 : Int), (2 : Int)]         (some (↑(cutL xs none (some (7 : Int))).length : Int)) none).length ≤   sizeLine) ( .ret .next ⟨[(S "script", (.obj 0)), (S "numbers", (.obj 5))], [], [(AO.fixed xs o), (.ints (cutL xs none (some (7 : Int)))), (.ints ([(2 : Int), (5300 : Int), (176 : Int), (0 : Int), (263 : Int), (84 : Int), (2 : Int)])), (.ints (cutL xs none (some (7 : Int)))), (.ints (cutL [(2 : Int), (5300 : Int), (176 : Int), (0 : Int), (263 : Int), (84 : Int), (2 : Int)]   (some (↑(cutL xs none (some (7 : Int))).length : Int)) none)), (.ints (cutL xs none (some (7 : Int)) ++   cutL [(2 : Int), (5300 : Int), (176 : Int), (0 : Int), (263 : Int), (84 : Int), (2 : Int)]     (some (↑(cutL xs none (some (7 : Int))).length : Int)) none))]⟩))))))) (by kernel_rfl!) ?_))
  refine ok_need ⟨⟨trivial, (by decide : (0 : Int) ≤ 7)⟩, by omega⟩ (ok_need (show 7 ≤ sizeLine by decide) (ok_need ⟨⟨trivial, (by decide : (0 : Int) ≤ 7)⟩, by omega⟩ (ok_need (show (xs.take 7).length ≤ sizeLine by omega) (ok_need ⟨⟨(Int.natCast_nonneg _ : (0 : Int) ≤ ((xs.take 7).length : Int)), trivial⟩, (show 7 ≤ sizeLine by decide)⟩ (ok_need ?_ ?_)))))
  · show (xs.take 7).length + (lwD.drop (xs.take 7).length).length ≤ sizeLine
    rw [List.length_drop]
    have : lwD.length = 7 := rfl
    omega
  show ExOk x _ _ _
  refine ExOk.cut hx.ok (k := 1) (n := 2) [0, 5] ha (by rfl) ?_
  show ExOk x _ ⟨[(S "script", .obj 0), (S "numbers", .obj 1)], [], [.fixed xs o, .ints (lwN xs)]⟩ _
  have n7 := lwN_len xs
  generalize lwN xs = ns at n7
  obtain ⟨r0, r1, r2, r3, er, ro⟩ := roles_ro (ns.getD (Int.toNat (0 : Int)) (0 : Int))
  intro s Q E m news S0 a0 post
  have eR : [st1 B40 1] = [.Return (some (.Call (caFn X40) (hdE (caArgs X40) :: (caArgs X40).drop 1) [] (clPos X40))) (rtPos (st1 B40 1))] := by kernel_rfl!
  rw [eR]
  refine wpAny_execs_cons (wpAny_Return_some ?_)
  refine call_topO (c := g40) hx.ok hN (f := 835) (P := fun ds σ => ds = [.obj 2, .str (rolesL (ns.getD (Int.toNat (0 : Int)) (0 : Int))), .int (((ns.getD (Int.toNat (0 : Int)) (0 : Int)).fdiv (112 : Int)).fmod (3 : Int))] ∧ σ = ⟨[(S "script", .obj 0), (S "numbers", .obj 1)], [], [.fixed xs o, .ints ns, .ints (cutL ns (some (1 : Int)) none)]⟩) (by kernel_rfl!) (ok_eq (t' := .need (partOk (some (1 : Int)) none ∧ ns.length ≤ sizeLine) (.need ((0 : Int) ≤ (0 : Int) ∧ (0 : Int) < (ns.length : Int) ∧ ns.length ≤ sizeLine) (.call 780 [(.int (ns.getD (Int.toNat (0 : Int)) (0 : Int)))] [] (.str (rolesL (ns.getD (Int.toNat (0 : Int)) (0 : Int)))) [] (.need ((0 : Int) ≤ (0 : Int) ∧ (0 : Int) < (ns.length : Int) ∧ ns.length ≤ sizeLine) (.need ((112 : Int) ≠ (0 : Int) ∧ Builtin.divisionGoesByPylong (ns.getD (Int.toNat (0 : Int)) (0 : Int)) (112 : Int) = false) (.need ((3 : Int) ≠ (0 : Int)) (.ret [.obj 2, .str (rolesL (ns.getD (Int.toNat (0 : Int)) (0 : Int))), .int (((ns.getD (Int.toNat (0 : Int)) (0 : Int)).fdiv (112 : Int)).fmod (3 : Int))] ⟨[(S "script", .obj 0), (S "numbers", .obj 1)], [], [.fixed xs o, .ints ns, .ints (cutL ns (some (1 : Int)) none)]⟩))))))) (by kernel_rfl!) ?_) (by kernel_rfl!) (by kernel_rfl!) (notAttr_ne (by kernel_rfl!)) S0 fun s1 m1 news1 vals ds σ' hP S1 pre1 ra => ?_
  · exact ok_need ⟨⟨(by decide : (0 : Int) ≤ 1), trivial⟩, by omega⟩ (ok_need ⟨by decide, by omega, by omega⟩ ⟨⟨n + 6, hx.n, roles_ok x.w (n + 6) _⟩, ok_need ⟨by decide, by omega, by omega⟩ (ok_need ⟨by decide, PyProof.noPylong_small (by decide)⟩ (ok_need (by decide) ⟨rfl, rfl⟩))⟩)
  obtain ⟨rfl, rfl⟩ := hP
  obtain ⟨l, t1, t2, rfl, hlH⟩ : ∃ l t1 t2, vals = [.ref l, .str ⟨(rolesL (ns.getD (Int.toNat (0 : Int)) (0 : Int))).toArray⟩ t1, .int (((ns.getD (Int.toNat (0 : Int)) (0 : Int)).fdiv (112 : Int)).fmod (3 : Int)) t2] ∧ (ads news1)[2]? = some l := by
    cases ra with
    | cons q1 q2 =>
      obtain ⟨v2, v3, rfl, ⟨ta, rfl⟩, ⟨tv, rfl⟩⟩ := all2_2 q2
      obtain ⟨l, hl, rfl⟩ := q1
      exact ⟨l, ta, tv, rfl, hl⟩
  have hidl : ∀ i ∈ [2], i < [AO.fixed xs o, .ints ns, .ints (cutL ns (some (1 : Int)) none)].length := by
    intro j hj
    show j < 3
    simp at hj; omega
  have hl1 : (x.env.locals :: ads (subN news1 [2]))[1]? = some l := ads_sub S1 hidl (i := 2) (by simp) hlH
  have hflat : ∀ (ys : List Int), Flat (.ints ys) := fun _ => ⟨rfl, fun _ => rfl⟩
  have len6 : (cutL ns (some (1 : Int)) none).length ≤ 30 := by
    show (ns.drop 1).length ≤ 30
    rw [List.length_drop]; omega
  have hrun : ∀ oL, CallOkG x.w (n + 6) 835 [.obj 1, .str (rolesL (ns.getD (Int.toNat (0 : Int)) (0 : Int))), .int (((ns.getD (Int.toNat (0 : Int)) (0 : Int)).fdiv (112 : Int)).fmod (3 : Int))] [.frame oL, .ints (cutL ns (some (1 : Int)) none)] (InFr 1) fun d o' => d = .bool true ∧ o' = [.frame oL, .ints (cutL ns (some (1 : Int)) none)] := fun oL => by
    rw [er]
    exact run_ok x.w n ro oL _ _ len6
  refine callF hx.ok (n := n + 6) hx.n hfr hf S1 (ids := [2]) (by simp) hidl ?_ trivial (args := [.obj 1, .str (rolesL (ns.getD (Int.toNat (0 : Int)) (0 : Int))), .int (((ns.getD (Int.toNat (0 : Int)) (0 : Int)).fdiv (112 : Int)).fmod (3 : Int))]) (d' := .bool true) (os₁ := [.ints (cutL ns (some (1 : Int)) none)]) rfl ?_ rfl hrun (.cons ⟨l, hl1, rfl⟩ (.cons ⟨t1, rfl⟩ (.cons ⟨t2, rfl⟩ .nil))) fun v1 s2 news2 ea S2 rv => ?_
  · intro j hj
    rw [List.mem_singleton.mp hj]
    exact hflat _
  · intro ao hao
    rw [List.mem_singleton.mp hao]
    exact hflat _
  · refine post (.ret v1) s2 m1 news2 (.ret (.bool true)) _ ?_ S2 (by rw [ea]; exact a0.trans pre1) rv
    exact ⟨[0], by rfl, by rfl, rfl, rfl⟩
end
end Mine
namespace Mine
noncomputable section
theorem no_list (P : Params) : ((K P).all fun p => match p.2.cls with | .type n => !decide (n = "list") | _ => true) = true := by kernel_rfl
theorem not_list {P : Params} {a : Addr} {o : Obj} (h : (K P).lookup a = some o) : o.cls ≠ .type "list" := fun q => by
  obtain ⟨l₁, l₂, e, _⟩ := List.lookup_eq_some_iff.mp h
  have := List.all_eq_true.mp (no_list P) (a, o) (by rw [e]; simp)
  dsimp only at this
  rw [q] at this
  simp at this
theorem ns_hide {h : Heap} {a c : Addr} {m : Str → Option Value} {o : Obj} {vs : Array Value} {n : Nat} (H : h.Ns c m) (ho : h.get? a = some o) (hd : o.data = .seq vs n) : (hideAll h [a]).Ns c m := by
  obtain ⟨o', es, ep, e, ed, r⟩ := H
  refine ⟨o', es, ep, hideAll_get _ e fun q => ?_, ed, r⟩
  have q := List.mem_singleton.mp q
  subst q
  rw [ho] at e
  cases e
  rw [hd] at ed
  cases ed
theorem base_hide1 {w : World} {h : Heap} {a : Addr} {o : Obj} {vs : Array Value} {n : Nat} (b : Base w h) (ho : h.get? a = some o) (hc : o.cls = .type "list") (hd : o.data = .seq vs n) : Base w (hideAll h [a]) := by
  refine ⟨fun c o' e => ?_, ?_, ?_, ?_⟩
  · refine hideAll_get _ (b.kin c o' e) fun q => ?_
    have q := List.mem_singleton.mp q
    subst q
    have := b.kin c o' e
    rw [ho] at this
    cases this
    exact not_list e hc
  · obtain ⟨mc, h1, h2⟩ := b.nolimit
    exact ⟨mc, ns_hide h1 ho hd, h2⟩
  · obtain ⟨mg, h1⟩ := b.glob
    exact ⟨mg, ns_hide h1 ho hd⟩
  · obtain ⟨mb, h1, h2⟩ := b.blt
    exact ⟨mb, ns_hide h1 ho hd, h2⟩
theorem lawOk : LawOk := by
  intro w s a vs ns hB hg hL hi hlen
  obtain ⟨o, ho, hc, nn, hd⟩ := hL
  have hB' := base_hide1 hB ho hc hd
  have O : Own (hideAll s.heap [a]) s.heap [(a, o)] [.fixed ns o] := by
    refine ⟨fun b o e => of_hideAll _ e, by rw [hideAll_size]; exact Nat.le_refl _, fun p hp => ?_, List.nodup_cons.mpr ⟨List.not_mem_nil, List.nodup_nil⟩, .cons ⟨rfl, hc, vs, nn, hd, hi⟩ .nil⟩
    rw [List.mem_singleton.mp hp]
    exact ⟨ho, hideAll_none _ (.head _)⟩
  have rm : Room (0 + 7 + 1) callerA := ⟨by decide, by decide, rfl⟩
  refine wpAny_call (law_ok w 0 o ns hlen callerA s _ [(a, o)] [.ref a] _ rm ⟨[], rfl, rfl, trivial⟩ hB' O (.cons ⟨a, rfl, rfl⟩ .nil) hg ?_)
  rintro v s' news' d os' ⟨rfl, rfl⟩ P pre r hg' ho'
  refine ⟨r, fun b ob e => ?_, ho', hg'⟩
  by_cases hb : b = a
  · subst hb
    have hob := P.obj
    have hown := P.own
    clear P
    cases hob with
    | @cons p' b' l' l'' q hr =>
      cases hr
      obtain ⟨a', o'⟩ := p'
      obtain ⟨t, et⟩ := pre
      have et : b = a' := (List.cons.inj et).1
      subst et
      have q1 : o' = o := q.1
      subst q1
      rw [ho] at e
      cases e
      exact (hown _ (.head _)).1
  · exact P.keep b ob (hideAll_get _ e fun q => hb (List.mem_singleton.mp q))
end
end Mine
set_option maxRecDepth 100000 in
set_option maxHeartbeats 8000000 in
theorem PySem.Challenge.cw_op0228_01_holds : PySem.Challenge.rw_op0228_01.Holds := by
  exact Mine.head Mine.lawOk
