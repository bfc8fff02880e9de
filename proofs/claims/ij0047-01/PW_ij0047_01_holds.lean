import PyProof.Rows.All
import Wide.All
import OpenK.AllK
import Wide.FinOn
import PySem.Challenge.RW_ij0047_01
open PySem PySem.W PySem.Spec PySem.Calls PyProof.Rows
set_option Elab.async false
set_option compiler.extract_closed false
set_option linter.all false
namespace Mine
noncomputable abbrev pw : Program := PySem.Challenge.pw_ij0047_01
set_option backward.match.sparseCases false in
noncomputable def bodyOf : Stmt → List Stmt
  | .FunctionDef (body := b) .. => b
  | .ClassDef (body := b) .. => b
  | _ => []
set_option backward.match.sparseCases false in
noncomputable def parOf : Stmt → Arguments
  | .FunctionDef (args := a) .. => a
  | _ => { posonlyargs := [], args := [], vararg := none, kwonlyargs := [], kw_defaults := [], kwarg := none, defaults := [] }
set_option backward.match.sparseCases false in
noncomputable def scOf : Stmt → Scope
  | .FunctionDef (scope := s) .. => s
  | _ => { kind := .function, names := [], isGenerator := false, isCoroutine := false, more := [] }
noncomputable def stAt : List Stmt → Nat → Stmt
  | [], _ => .Pass ⟨0, 0, 0, 0⟩
  | x :: _, 0 => x
  | _ :: r, n + 1 => stAt r n
noncomputable def topSt (i : Nat) : Stmt := stAt pw.main.body i
noncomputable def inSt (i j : Nat) : Stmt := stAt (bodyOf (topSt i)) j
set_option backward.match.sparseCases false in
noncomputable def undocL : List Stmt → List Stmt
  | .Expr (.Constant (.str _) k p) q :: r => .Expr (.Constant (.str ⟨#[]⟩) k p) q :: r
  | l => l
set_option backward.match.sparseCases false in
noncomputable def sansDoc : List Stmt → List Stmt
  | .Expr (.Constant (.str _) k p) q :: r => .Expr (.Constant (.str ⟨#[]⟩) k p) q :: r
  | l => l
noncomputable def o2 (P : Params) : Obj := ⟨.none, none, (.dict #[⟨PyData.keyHash P (PySem.Str.ofString "\x69mport.loaded.math"), (.str (PySem.Str.ofString "\x69mport.loaded.math") 189), (.bool true)⟩, ⟨PyData.keyHash P (PySem.Str.ofString "class._frozen_importlib_external._LoaderBasics"), (.str (PySem.Str.ofString "class._frozen_importlib_external._LoaderBasics") 194), (.ref 16)⟩, ⟨PyData.keyHash P (PySem.Str.ofString "watched.\x69mport"), (.str (PySem.Str.ofString "watched.\x69mport") 210), (.ref 20)⟩, ⟨PyData.keyHash P (PySem.Str.ofString "class._frozen_importlib_external.FileLoader"), (.str (PySem.Str.ofString "class._frozen_importlib_external.FileLoader") 211), (.ref 22)⟩, ⟨PyData.keyHash P (PySem.Str.ofString "class._frozen_importlib_external.ExtensionFileLoader"), (.str (PySem.Str.ofString "class._frozen_importlib_external.ExtensionFileLoader") 232), (.ref 27)⟩, ⟨PyData.keyHash P (PySem.Str.ofString "class._frozen_importlib.ModuleSpec"), (.str (PySem.Str.ofString "class._frozen_importlib.ModuleSpec") 260), (.ref 33)⟩, ⟨PyData.keyHash P (PySem.Str.ofString "sys.modules.booked-epoch"), (.str (PySem.Str.ofString "sys.modules.booked-epoch") 289), (.int 3 0)⟩, ⟨PyData.keyHash P (PySem.Str.ofString "\x69mport.later-laid.math"), (.str (PySem.Str.ofString "\x69mport.later-laid.math") 365), (.bool true)⟩, ⟨PyData.keyHash P (PySem.Str.ofString "watched.library"), (.str (PySem.Str.ofString "watched.library") 367), (.ref 38)⟩, ⟨PyData.keyHash P (PySem.Str.ofString "watched.library-objects"), (.str (PySem.Str.ofString "watched.library-objects") 0), (.str (PySem.Str.ofString "\x0d") 0)⟩] 10), #[]⟩
noncomputable def o3 (P : Params) : Obj := ⟨(.type "dict"), none, (.dict #[⟨PyData.keyHash P (PySem.Str.ofString "__name__"), (.str (PySem.Str.ofString "__name__") 165), (.str (PySem.Str.ofString "law_ij0047_01") 1039)⟩, ⟨PyData.keyHash P (PySem.Str.ofString "__doc__"), (.str (PySem.Str.ofString "__doc__") 166), .none⟩, ⟨PyData.keyHash P (PySem.Str.ofString "__package__"), (.str (PySem.Str.ofString "__package__") 167), .none⟩, ⟨PyData.keyHash P (PySem.Str.ofString "__loader__"), (.str (PySem.Str.ofString "__loader__") 168), (.builtin "__main__.__loader__#opaque")⟩, ⟨PyData.keyHash P (PySem.Str.ofString "__spec__"), (.str (PySem.Str.ofString "__spec__") 169), .none⟩, ⟨PyData.keyHash P (PySem.Str.ofString "__annotations__"), (.str (PySem.Str.ofString "__annotations__") 170), (.ref 6)⟩, ⟨PyData.keyHash P (PySem.Str.ofString "__builtins__"), (.str (PySem.Str.ofString "__builtins__") 171), (.ref 4)⟩, ⟨PyData.keyHash P (PySem.Str.ofString "__file__"), (.str (PySem.Str.ofString "__file__") 173), (.str (PySem.Str.ofString "/claim/cut.py") 172)⟩, ⟨PyData.keyHash P (PySem.Str.ofString "__cached__"), (.str (PySem.Str.ofString "__cached__") 174), .none⟩, ⟨PyData.keyHash P (PySem.Str.ofString "fsum"), (.str (PySem.Str.ofString "fsum") 373), (.builtin "math.fsum")⟩, ⟨PyData.keyHash P (PySem.Str.ofString "isfinite"), (.str (PySem.Str.ofString "isfinite") 376), (.builtin "math.isfinite")⟩, ⟨PyData.keyHash P (PySem.Str.ofString "isinf"), (.str (PySem.Str.ofString "isinf") 379), (.builtin "math.isinf")⟩, ⟨PyData.keyHash P (PySem.Str.ofString "sqrt"), (.str (PySem.Str.ofString "sqrt") 382), (.builtin "math.sqrt")⟩, ⟨PyData.keyHash P (PySem.Str.ofString "sumprod"), (.str (PySem.Str.ofString "sumprod") 385), (.builtin "math.sumprod")⟩, ⟨PyData.keyHash P (PySem.Str.ofString "_wall"), (.str (PySem.Str.ofString "_wall") 398), (.ref 49)⟩, ⟨PyData.keyHash P (PySem.Str.ofString "_tuplegetter"), (.str (PySem.Str.ofString "_tuplegetter") 457), (.ref 88)⟩, ⟨PyData.keyHash P (PySem.Str.ofString "StatisticsError"), (.str (PySem.Str.ofString "StatisticsError") 475), (.ref 102)⟩, ⟨PyData.keyHash P (PySem.Str.ofString "_MAXSIZE"), (.str (PySem.Str.ofString "_MAXSIZE") 479), (.int 9223372036854775807 478)⟩, ⟨PyData.keyHash P (PySem.Str.ofString "_is_int"), (.str (PySem.Str.ofString "_is_int") 487), (.ref 112)⟩, ⟨PyData.keyHash P (PySem.Str.ofString "_pull"), (.str (PySem.Str.ofString "_pull") 494), (.ref 119)⟩, ⟨PyData.keyHash P (PySem.Str.ofString "_same"), (.str (PySem.Str.ofString "_same") 502), (.ref 126)⟩, ⟨PyData.keyHash P (PySem.Str.ofString "groupby"), (.str (PySem.Str.ofString "groupby") 593), (.ref 167)⟩, ⟨PyData.keyHash P (PySem.Str.ofString "_grouper"), (.str (PySem.Str.ofString "_grouper") 647), (.ref 212)⟩, ⟨PyData.keyHash P (PySem.Str.ofString "_count_kind"), (.str (PySem.Str.ofString "_count_kind") 655), (.ref 224)⟩, ⟨PyData.keyHash P (PySem.Str.ofString "count"), (.str (PySem.Str.ofString "count") 720), (.ref 265)⟩, ⟨PyData.keyHash P (PySem.Str.ofString "itemgetter"), (.str (PySem.Str.ofString "itemgetter") 784), (.ref 310)⟩, ⟨PyData.keyHash P (PySem.Str.ofString "_rank"), (.str (PySem.Str.ofString "_rank") 814), (.ref 321)⟩, ⟨PyData.keyHash P (PySem.Str.ofString "_sqrtprod"), (.str (PySem.Str.ofString "_sqrtprod") 826), (.ref 328)⟩, ⟨PyData.keyHash P (PySem.Str.ofString "covariance"), (.str (PySem.Str.ofString "covariance") 839), (.ref 335)⟩, ⟨PyData.keyHash P (PySem.Str.ofString "correlation"), (.str (PySem.Str.ofString "correlation") 848), (.ref 341)⟩, ⟨PyData.keyHash P (PySem.Str.ofString "LinearRegression"), (.str (PySem.Str.ofString "LinearRegression") 963), (.ref 409)⟩, ⟨PyData.keyHash P (PySem.Str.ofString "linear_regression"), (.str (PySem.Str.ofString "linear_regression") 971), (.ref 418)⟩, ⟨PyData.keyHash P (PySem.Str.ofString "_buffer"), (.str (PySem.Str.ofString "_buffer") 981), (.ref 425)⟩, ⟨PyData.keyHash P (PySem.Str.ofString "_truth"), (.str (PySem.Str.ofString "_truth") 989), (.ref 432)⟩, ⟨PyData.keyHash P (PySem.Str.ofString "_B64"), (.str (PySem.Str.ofString "_B64") 991), (.bytes #[65, 66, 67, 68, 69, 70, 71, 72, 73, 74, 75, 76, 77, 78, 79, 80, 81, 82, 83, 84, 85, 86, 87, 88, 89, 90, 97, 98, 99, 100, 101, 102, 103, 104, 105, 106, 107, 108, 109, 110, 111, 112, 113, 114, 115, 116, 117, 118, 119, 120, 121, 122, 48, 49, 50, 51, 52, 53, 54, 55, 56, 57, 43, 47] 990)⟩, ⟨PyData.keyHash P (PySem.Str.ofString "b2a_base64"), (.str (PySem.Str.ofString "b2a_base64") 1005), (.ref 440)⟩, ⟨PyData.keyHash P (PySem.Str.ofString "_NO_SEP"), (.str (PySem.Str.ofString "_NO_SEP") 1006), (.ref 441)⟩, ⟨PyData.keyHash P (PySem.Str.ofString "b2a_hex"), (.str (PySem.Str.ofString "b2a_hex") 1017), (.ref 449)⟩, ⟨PyData.keyHash P (PySem.Str.ofString "hexlify"), (.str (PySem.Str.ofString "hexlify") 1018), (.ref 449)⟩, ⟨PyData.keyHash P (PySem.Str.ofString "b64encode"), (.str (PySem.Str.ofString "b64encode") 1030), (.ref 457)⟩, ⟨PyData.keyHash P (PySem.Str.ofString "b16encode"), (.str (PySem.Str.ofString "b16encode") 1038), (.ref 464)⟩, ⟨PyData.keyHash P (PySem.Str.ofString "_law_alts"), (.str (PySem.Str.ofString "_law_alts") 1048), (.ref 471)⟩, ⟨PyData.keyHash P (PySem.Str.ofString "_law_sign"), (.str (PySem.Str.ofString "_law_sign") 1056), (.ref 478)⟩, ⟨PyData.keyHash P (PySem.Str.ofString "_law_unlike"), (.str (PySem.Str.ofString "_law_unlike") 1065), (.ref 485)⟩, ⟨PyData.keyHash P (PySem.Str.ofString "_law_ahead"), (.str (PySem.Str.ofString "_law_ahead") 1075), (.ref 492)⟩, ⟨PyData.keyHash P (PySem.Str.ofString "law"), (.str (PySem.Str.ofString "law") 1081), (.ref 497)⟩] 46), #[]⟩
noncomputable def o118 (P : Params) : Obj := ⟨(.type "code"), none, (.fields #[(.str (PySem.Str.ofString "_pull") 488), (.str (PySem.Str.ofString "_pull") 489), (.str (PySem.Str.ofString "/claim/cut.py") 490), (.int 31 0), (.int 1 0), (.int 0 0), (.int 0 0), (.int 3 0), (.ref 113), (.bool true), (.int 386 0), (.ref 114), .none, (.ref 115), (.ref 116), (.ref 117), (.int 492 0), (.int 31 0), (.str (PySem.Str.ofString "/claim/cut.py") 493)]), #[]⟩
noncomputable def o119 (P : Params) : Obj := ⟨(.type "function"), none, (.func (fnOf (PySem.Str.ofString "_pull") (PySem.Str.ofString "_pull") (parOf (topSt 8)) (bodyOf (topSt 8)) (scOf (topSt 8)) .none .none .none (.str (PySem.Str.ofString "itertools") 476) none (.ref 118) .none)), #[]⟩
noncomputable def o125 (P : Params) : Obj := ⟨(.type "code"), none, (.fields #[(.str (PySem.Str.ofString "_same") 495), (.str (PySem.Str.ofString "_same") 496), (.str (PySem.Str.ofString "/claim/cut.py") 497), (.int 36 0), (.int 2 0), (.int 0 0), (.int 0 0), (.int 3 0), (.ref 120), (.bool true), (.int 386 0), (.ref 121), .none, (.ref 122), (.ref 123), (.ref 124), (.int 500 0), (.int 36 0), (.str (PySem.Str.ofString "/claim/cut.py") 501)]), #[]⟩
noncomputable def o126 (P : Params) : Obj := ⟨(.type "function"), none, (.func (fnOf (PySem.Str.ofString "_same") (PySem.Str.ofString "_same") (parOf (topSt 9)) (bodyOf (topSt 9)) (scOf (topSt 9)) .none .none .none (.str (PySem.Str.ofString "itertools") 476) none (.ref 125) .none)), #[]⟩
noncomputable def o135 (P : Params) : Obj := ⟨(.type "tuple"), none, (.seq #[.none] 0), #[]⟩
noncomputable def o141 (P : Params) : Obj := ⟨(.type "code"), none, (.fields #[(.str (PySem.Str.ofString "__init__") 526), (.str (PySem.Str.ofString "groupby.__init__") 527), (.str (PySem.Str.ofString "/claim/cut.py") 528), (.int 45 0), (.int 3 0), (.int 0 0), (.int 0 0), (.int 3 0), (.ref 136), (.bool true), (.int 386 0), (.ref 137), .none, (.ref 138), (.ref 139), (.ref 140), (.int 532 0), (.int 45 0), (.str (PySem.Str.ofString "/claim/cut.py") 533)]), #[]⟩
noncomputable def o142 (P : Params) : Obj := ⟨(.type "function"), none, (.func (fnOf (PySem.Str.ofString "__init__") (PySem.Str.ofString "groupby.__init__") (parOf (inSt 10 1)) (bodyOf (inSt 10 1)) (scOf (inSt 10 1)) (.ref 135) .none .none (.str (PySem.Str.ofString "itertools") 476) none (.ref 141) .none)), #[]⟩
noncomputable def o148 (P : Params) : Obj := ⟨(.type "code"), none, (.fields #[(.str (PySem.Str.ofString "__iter__") 535), (.str (PySem.Str.ofString "groupby.__iter__") 536), (.str (PySem.Str.ofString "/claim/cut.py") 537), (.int 57 0), (.int 1 0), (.int 0 0), (.int 0 0), (.int 3 0), (.ref 143), (.bool true), (.int 386 0), (.ref 144), .none, (.ref 145), (.ref 146), (.ref 147), (.int 539 0), (.int 57 0), (.str (PySem.Str.ofString "/claim/cut.py") 540)]), #[]⟩
noncomputable def o149 (P : Params) : Obj := ⟨(.type "function"), none, (.func (fnOf (PySem.Str.ofString "__iter__") (PySem.Str.ofString "groupby.__iter__") (parOf (inSt 10 2)) (bodyOf (inSt 10 2)) (scOf (inSt 10 2)) .none .none .none (.str (PySem.Str.ofString "itertools") 476) none (.ref 148) .none)), #[]⟩
noncomputable def o155 (P : Params) : Obj := ⟨(.type "code"), none, (.fields #[(.str (PySem.Str.ofString "_step") 542), (.str (PySem.Str.ofString "groupby._step") 543), (.str (PySem.Str.ofString "/claim/cut.py") 544), (.int 60 0), (.int 1 0), (.int 0 0), (.int 0 0), (.int 3 0), (.ref 150), (.bool true), (.int 386 0), (.ref 151), .none, (.ref 152), (.ref 153), (.ref 154), (.int 549 0), (.int 60 0), (.str (PySem.Str.ofString "/claim/cut.py") 550)]), #[]⟩
noncomputable def o156 (P : Params) : Obj := ⟨(.type "function"), none, (.func (fnOf (PySem.Str.ofString "_step") (PySem.Str.ofString "groupby._step") (parOf (inSt 10 3)) (bodyOf (inSt 10 3)) (scOf (inSt 10 3)) .none .none .none (.str (PySem.Str.ofString "itertools") 476) none (.ref 155) .none)), #[]⟩
noncomputable def o162 (P : Params) : Obj := ⟨(.type "code"), none, (.fields #[(.str (PySem.Str.ofString "__next__") 552), (.str (PySem.Str.ofString "groupby.__next__") 553), (.str (PySem.Str.ofString "/claim/cut.py") 554), (.int 73 0), (.int 1 0), (.int 0 0), (.int 0 0), (.int 3 0), (.ref 157), (.bool true), (.int 386 0), (.ref 158), .none, (.ref 159), (.ref 160), (.ref 161), (.int 557 0), (.int 73 0), (.str (PySem.Str.ofString "/claim/cut.py") 558)]), #[]⟩
noncomputable def o163 (P : Params) : Obj := ⟨(.type "function"), none, (.func (fnOf (PySem.Str.ofString "__next__") (PySem.Str.ofString "groupby.__next__") (parOf (inSt 10 4)) (bodyOf (inSt 10 4)) (scOf (inSt 10 4)) .none .none .none (.str (PySem.Str.ofString "itertools") 476) none (.ref 162) .none)), #[]⟩
noncomputable def o166 (P : Params) : Obj := ⟨(.type "dict"), none, (.dict #[⟨PyData.keyHash P (PySem.Str.ofString "__module__"), (.str (PySem.Str.ofString "__module__") 510), (.str (PySem.Str.ofString "itertools") 476)⟩, ⟨PyData.keyHash P (PySem.Str.ofString "__firstlineno__"), (.str (PySem.Str.ofString "__firstlineno__") 514), (.int 42 513)⟩, ⟨PyData.keyHash P (PySem.Str.ofString "__slots__"), (.str (PySem.Str.ofString "__slots__") 525), (.ref 134)⟩, ⟨PyData.keyHash P (PySem.Str.ofString "__init__"), (.str (PySem.Str.ofString "__init__") 534), (.ref 142)⟩, ⟨PyData.keyHash P (PySem.Str.ofString "__iter__"), (.str (PySem.Str.ofString "__iter__") 541), (.ref 149)⟩, ⟨PyData.keyHash P (PySem.Str.ofString "_step"), (.str (PySem.Str.ofString "_step") 551), (.ref 156)⟩, ⟨PyData.keyHash P (PySem.Str.ofString "__next__"), (.str (PySem.Str.ofString "__next__") 559), (.ref 163)⟩, ⟨PyData.keyHash P (PySem.Str.ofString "__static_attributes__"), (.str (PySem.Str.ofString "__static_attributes__") 570), (.ref 164)⟩, ⟨PyData.keyHash P (PySem.Str.ofString "_currgrouper"), (.str (PySem.Str.ofString "_currgrouper") 572), (.ref 168)⟩, ⟨PyData.keyHash P (PySem.Str.ofString "_currkey"), (.str (PySem.Str.ofString "_currkey") 574), (.ref 169)⟩, ⟨PyData.keyHash P (PySem.Str.ofString "_currvalue"), (.str (PySem.Str.ofString "_currvalue") 576), (.ref 170)⟩, ⟨PyData.keyHash P (PySem.Str.ofString "_has_currkey"), (.str (PySem.Str.ofString "_has_currkey") 578), (.ref 171)⟩, ⟨PyData.keyHash P (PySem.Str.ofString "_has_currvalue"), (.str (PySem.Str.ofString "_has_currvalue") 580), (.ref 172)⟩, ⟨PyData.keyHash P (PySem.Str.ofString "_has_tgtkey"), (.str (PySem.Str.ofString "_has_tgtkey") 582), (.ref 173)⟩, ⟨PyData.keyHash P (PySem.Str.ofString "_it"), (.str (PySem.Str.ofString "_it") 584), (.ref 174)⟩, ⟨PyData.keyHash P (PySem.Str.ofString "_keyfunc"), (.str (PySem.Str.ofString "_keyfunc") 586), (.ref 175)⟩, ⟨PyData.keyHash P (PySem.Str.ofString "_serial"), (.str (PySem.Str.ofString "_serial") 588), (.ref 176)⟩, ⟨PyData.keyHash P (PySem.Str.ofString "_tgtkey"), (.str (PySem.Str.ofString "_tgtkey") 590), (.ref 177)⟩, ⟨PyData.keyHash P (PySem.Str.ofString "__doc__"), (.str (PySem.Str.ofString "__doc__") 591), .none⟩] 12), #[]⟩
noncomputable def o167 (P : Params) : Obj := ⟨(.type "type"), none, (.cls { name := (PySem.Str.ofString "groupby"), bases := [(.type "object")], mro := [(.ref 167), (.type "object")], ns := 166, qualname := (PySem.Str.ofString "groupby"), hasDict := false, slotNames := [(PySem.Str.ofString "_currgrouper"), (PySem.Str.ofString "_currkey"), (PySem.Str.ofString "_currvalue"), (PySem.Str.ofString "_has_currkey"), (PySem.Str.ofString "_has_currvalue"), (PySem.Str.ofString "_has_tgtkey"), (PySem.Str.ofString "_it"), (PySem.Str.ofString "_keyfunc"), (PySem.Str.ofString "_serial"), (PySem.Str.ofString "_tgtkey")], subclasses := [], abstract := false, collection := none, hasDel := false }), #[none, none, some (.str (PySem.Str.ofString "groupby") 503), some (.str (PySem.Str.ofString "groupby") 511), some (.builtin "object.__new__"), some (.bool false)]⟩
noncomputable def o168 (P : Params) : Obj := ⟨(.type "member_descriptor"), none, (.fields #[(.str (PySem.Str.ofString "_currgrouper") 571), (.ref 167), (.builtin "proto.slot"), (.builtin "proto.slot#set"), (.int 9 0)]), #[]⟩
noncomputable def o169 (P : Params) : Obj := ⟨(.type "member_descriptor"), none, (.fields #[(.str (PySem.Str.ofString "_currkey") 573), (.ref 167), (.builtin "proto.slot"), (.builtin "proto.slot#set"), (.int 8 0)]), #[]⟩
noncomputable def o170 (P : Params) : Obj := ⟨(.type "member_descriptor"), none, (.fields #[(.str (PySem.Str.ofString "_currvalue") 575), (.ref 167), (.builtin "proto.slot"), (.builtin "proto.slot#set"), (.int 7 0)]), #[]⟩
noncomputable def o171 (P : Params) : Obj := ⟨(.type "member_descriptor"), none, (.fields #[(.str (PySem.Str.ofString "_has_currkey") 577), (.ref 167), (.builtin "proto.slot"), (.builtin "proto.slot#set"), (.int 6 0)]), #[]⟩
noncomputable def o172 (P : Params) : Obj := ⟨(.type "member_descriptor"), none, (.fields #[(.str (PySem.Str.ofString "_has_currvalue") 579), (.ref 167), (.builtin "proto.slot"), (.builtin "proto.slot#set"), (.int 5 0)]), #[]⟩
noncomputable def o173 (P : Params) : Obj := ⟨(.type "member_descriptor"), none, (.fields #[(.str (PySem.Str.ofString "_has_tgtkey") 581), (.ref 167), (.builtin "proto.slot"), (.builtin "proto.slot#set"), (.int 4 0)]), #[]⟩
noncomputable def o174 (P : Params) : Obj := ⟨(.type "member_descriptor"), none, (.fields #[(.str (PySem.Str.ofString "_it") 583), (.ref 167), (.builtin "proto.slot"), (.builtin "proto.slot#set"), (.int 3 0)]), #[]⟩
noncomputable def o175 (P : Params) : Obj := ⟨(.type "member_descriptor"), none, (.fields #[(.str (PySem.Str.ofString "_keyfunc") 585), (.ref 167), (.builtin "proto.slot"), (.builtin "proto.slot#set"), (.int 2 0)]), #[]⟩
noncomputable def o176 (P : Params) : Obj := ⟨(.type "member_descriptor"), none, (.fields #[(.str (PySem.Str.ofString "_serial") 587), (.ref 167), (.builtin "proto.slot"), (.builtin "proto.slot#set"), (.int 1 0)]), #[]⟩
noncomputable def o177 (P : Params) : Obj := ⟨(.type "member_descriptor"), none, (.fields #[(.str (PySem.Str.ofString "_tgtkey") 589), (.ref 167), (.builtin "proto.slot"), (.builtin "proto.slot#set"), (.int 0 0)]), #[]⟩
noncomputable def o193 (P : Params) : Obj := ⟨(.type "code"), none, (.fields #[(.str (PySem.Str.ofString "__init__") 610), (.str (PySem.Str.ofString "_grouper.__init__") 611), (.str (PySem.Str.ofString "/claim/cut.py") 612), (.int 89 0), (.int 3 0), (.int 3 0), (.int 0 0), (.int 3 0), (.ref 188), (.bool true), (.int 386 0), (.ref 189), .none, (.ref 190), (.ref 191), (.ref 192), (.int 616 0), (.int 89 0), (.str (PySem.Str.ofString "/claim/cut.py") 617)]), #[]⟩
noncomputable def o194 (P : Params) : Obj := ⟨(.type "function"), none, (.func (fnOf (PySem.Str.ofString "__init__") (PySem.Str.ofString "_grouper.__init__") (parOf (inSt 11 1)) (bodyOf (inSt 11 1)) (scOf (inSt 11 1)) .none .none .none (.str (PySem.Str.ofString "itertools") 476) none (.ref 193) .none)), #[]⟩
noncomputable def o200 (P : Params) : Obj := ⟨(.type "code"), none, (.fields #[(.str (PySem.Str.ofString "__iter__") 619), (.str (PySem.Str.ofString "_grouper.__iter__") 620), (.str (PySem.Str.ofString "/claim/cut.py") 621), (.int 98 0), (.int 1 0), (.int 0 0), (.int 0 0), (.int 3 0), (.ref 195), (.bool true), (.int 386 0), (.ref 196), .none, (.ref 197), (.ref 198), (.ref 199), (.int 623 0), (.int 98 0), (.str (PySem.Str.ofString "/claim/cut.py") 624)]), #[]⟩
noncomputable def o201 (P : Params) : Obj := ⟨(.type "function"), none, (.func (fnOf (PySem.Str.ofString "__iter__") (PySem.Str.ofString "_grouper.__iter__") (parOf (inSt 11 2)) (bodyOf (inSt 11 2)) (scOf (inSt 11 2)) .none .none .none (.str (PySem.Str.ofString "itertools") 476) none (.ref 200) .none)), #[]⟩
noncomputable def o207 (P : Params) : Obj := ⟨(.type "code"), none, (.fields #[(.str (PySem.Str.ofString "__next__") 626), (.str (PySem.Str.ofString "_grouper.__next__") 627), (.str (PySem.Str.ofString "/claim/cut.py") 628), (.int 101 0), (.int 1 0), (.int 0 0), (.int 0 0), (.int 3 0), (.ref 202), (.bool true), (.int 386 0), (.ref 203), .none, (.ref 204), (.ref 205), (.ref 206), (.int 632 0), (.int 101 0), (.str (PySem.Str.ofString "/claim/cut.py") 633)]), #[]⟩
noncomputable def o208 (P : Params) : Obj := ⟨(.type "function"), none, (.func (fnOf (PySem.Str.ofString "__next__") (PySem.Str.ofString "_grouper.__next__") (parOf (inSt 11 3)) (bodyOf (inSt 11 3)) (scOf (inSt 11 3)) .none .none .none (.str (PySem.Str.ofString "itertools") 476) none (.ref 207) .none)), #[]⟩
noncomputable def o211 (P : Params) : Obj := ⟨(.type "dict"), none, (.dict #[⟨PyData.keyHash P (PySem.Str.ofString "__module__"), (.str (PySem.Str.ofString "__module__") 601), (.str (PySem.Str.ofString "itertools") 476)⟩, ⟨PyData.keyHash P (PySem.Str.ofString "__firstlineno__"), (.str (PySem.Str.ofString "__firstlineno__") 605), (.int 86 604)⟩, ⟨PyData.keyHash P (PySem.Str.ofString "__slots__"), (.str (PySem.Str.ofString "__slots__") 609), (.ref 187)⟩, ⟨PyData.keyHash P (PySem.Str.ofString "__init__"), (.str (PySem.Str.ofString "__init__") 618), (.ref 194)⟩, ⟨PyData.keyHash P (PySem.Str.ofString "__iter__"), (.str (PySem.Str.ofString "__iter__") 625), (.ref 201)⟩, ⟨PyData.keyHash P (PySem.Str.ofString "__next__"), (.str (PySem.Str.ofString "__next__") 634), (.ref 208)⟩, ⟨PyData.keyHash P (PySem.Str.ofString "__static_attributes__"), (.str (PySem.Str.ofString "__static_attributes__") 638), (.ref 209)⟩, ⟨PyData.keyHash P (PySem.Str.ofString "_number"), (.str (PySem.Str.ofString "_number") 640), (.ref 213)⟩, ⟨PyData.keyHash P (PySem.Str.ofString "_parent"), (.str (PySem.Str.ofString "_parent") 642), (.ref 214)⟩, ⟨PyData.keyHash P (PySem.Str.ofString "_tgtkey"), (.str (PySem.Str.ofString "_tgtkey") 644), (.ref 215)⟩, ⟨PyData.keyHash P (PySem.Str.ofString "__doc__"), (.str (PySem.Str.ofString "__doc__") 645), .none⟩] 5), #[]⟩
noncomputable def o212 (P : Params) : Obj := ⟨(.type "type"), none, (.cls { name := (PySem.Str.ofString "_grouper"), bases := [(.type "object")], mro := [(.ref 212), (.type "object")], ns := 211, qualname := (PySem.Str.ofString "_grouper"), hasDict := false, slotNames := [(PySem.Str.ofString "_number"), (PySem.Str.ofString "_parent"), (PySem.Str.ofString "_tgtkey")], subclasses := [], abstract := false, collection := none, hasDel := false }), #[none, none, some (.str (PySem.Str.ofString "_grouper") 594), some (.str (PySem.Str.ofString "_grouper") 602), some (.builtin "object.__new__"), some (.bool false)]⟩
noncomputable def o213 (P : Params) : Obj := ⟨(.type "member_descriptor"), none, (.fields #[(.str (PySem.Str.ofString "_number") 639), (.ref 212), (.builtin "proto.slot"), (.builtin "proto.slot#set"), (.int 2 0)]), #[]⟩
noncomputable def o214 (P : Params) : Obj := ⟨(.type "member_descriptor"), none, (.fields #[(.str (PySem.Str.ofString "_parent") 641), (.ref 212), (.builtin "proto.slot"), (.builtin "proto.slot#set"), (.int 1 0)]), #[]⟩
noncomputable def o215 (P : Params) : Obj := ⟨(.type "member_descriptor"), none, (.fields #[(.str (PySem.Str.ofString "_tgtkey") 643), (.ref 212), (.builtin "proto.slot"), (.builtin "proto.slot#set"), (.int 0 0)]), #[]⟩
noncomputable def o223 (P : Params) : Obj := ⟨(.type "code"), none, (.fields #[(.str (PySem.Str.ofString "_count_kind") 648), (.str (PySem.Str.ofString "_count_kind") 649), (.str (PySem.Str.ofString "/claim/cut.py") 650), (.int 115 0), (.int 1 0), (.int 0 0), (.int 0 0), (.int 3 0), (.ref 218), (.bool true), (.int 386 0), (.ref 219), .none, (.ref 220), (.ref 221), (.ref 222), (.int 653 0), (.int 115 0), (.str (PySem.Str.ofString "/claim/cut.py") 654)]), #[]⟩
noncomputable def o224 (P : Params) : Obj := ⟨(.type "function"), none, (.func (fnOf (PySem.Str.ofString "_count_kind") (PySem.Str.ofString "_count_kind") (parOf (topSt 12)) (bodyOf (topSt 12)) (scOf (topSt 12)) .none .none .none (.str (PySem.Str.ofString "itertools") 476) none (.ref 223) .none)), #[]⟩
noncomputable def o233 (P : Params) : Obj := ⟨(.type "tuple"), none, (.seq #[(.int 0 672), (.int 1 673)] 0), #[]⟩
noncomputable def o239 (P : Params) : Obj := ⟨(.type "code"), none, (.fields #[(.str (PySem.Str.ofString "__init__") 674), (.str (PySem.Str.ofString "count.__init__") 675), (.str (PySem.Str.ofString "/claim/cut.py") 676), (.int 127 0), (.int 3 0), (.int 0 0), (.int 0 0), (.int 3 0), (.ref 234), (.bool true), (.int 386 0), (.ref 235), .none, (.ref 236), (.ref 237), (.ref 238), (.int 683 0), (.int 127 0), (.str (PySem.Str.ofString "/claim/cut.py") 684)]), #[]⟩
noncomputable def o240 (P : Params) : Obj := ⟨(.type "function"), none, (.func (fnOf (PySem.Str.ofString "__init__") (PySem.Str.ofString "count.__init__") (parOf (inSt 13 1)) (bodyOf (inSt 13 1)) (scOf (inSt 13 1)) (.ref 233) .none .none (.str (PySem.Str.ofString "itertools") 476) none (.ref 239) .none)), #[]⟩
noncomputable def o246 (P : Params) : Obj := ⟨(.type "code"), none, (.fields #[(.str (PySem.Str.ofString "__iter__") 686), (.str (PySem.Str.ofString "count.__iter__") 687), (.str (PySem.Str.ofString "/claim/cut.py") 688), (.int 139 0), (.int 1 0), (.int 0 0), (.int 0 0), (.int 3 0), (.ref 241), (.bool true), (.int 386 0), (.ref 242), .none, (.ref 243), (.ref 244), (.ref 245), (.int 690 0), (.int 139 0), (.str (PySem.Str.ofString "/claim/cut.py") 691)]), #[]⟩
noncomputable def o247 (P : Params) : Obj := ⟨(.type "function"), none, (.func (fnOf (PySem.Str.ofString "__iter__") (PySem.Str.ofString "count.__iter__") (parOf (inSt 13 2)) (bodyOf (inSt 13 2)) (scOf (inSt 13 2)) .none .none .none (.str (PySem.Str.ofString "itertools") 476) none (.ref 246) .none)), #[]⟩
noncomputable def o253 (P : Params) : Obj := ⟨(.type "code"), none, (.fields #[(.str (PySem.Str.ofString "__next__") 693), (.str (PySem.Str.ofString "count.__next__") 694), (.str (PySem.Str.ofString "/claim/cut.py") 695), (.int 142 0), (.int 1 0), (.int 0 0), (.int 0 0), (.int 3 0), (.ref 248), (.bool true), (.int 386 0), (.ref 249), .none, (.ref 250), (.ref 251), (.ref 252), (.int 698 0), (.int 142 0), (.str (PySem.Str.ofString "/claim/cut.py") 699)]), #[]⟩
noncomputable def o254 (P : Params) : Obj := ⟨(.type "function"), none, (.func (fnOf (PySem.Str.ofString "__next__") (PySem.Str.ofString "count.__next__") (parOf (inSt 13 3)) (bodyOf (inSt 13 3)) (scOf (inSt 13 3)) .none .none .none (.str (PySem.Str.ofString "itertools") 476) none (.ref 253) .none)), #[]⟩
noncomputable def o264 (P : Params) : Obj := ⟨(.type "dict"), none, (.dict #[⟨PyData.keyHash P (PySem.Str.ofString "__module__"), (.str (PySem.Str.ofString "__module__") 663), (.str (PySem.Str.ofString "itertools") 476)⟩, ⟨PyData.keyHash P (PySem.Str.ofString "__firstlineno__"), (.str (PySem.Str.ofString "__firstlineno__") 667), (.int 124 666)⟩, ⟨PyData.keyHash P (PySem.Str.ofString "__slots__"), (.str (PySem.Str.ofString "__slots__") 671), (.ref 232)⟩, ⟨PyData.keyHash P (PySem.Str.ofString "__init__"), (.str (PySem.Str.ofString "__init__") 685), (.ref 240)⟩, ⟨PyData.keyHash P (PySem.Str.ofString "__iter__"), (.str (PySem.Str.ofString "__iter__") 692), (.ref 247)⟩, ⟨PyData.keyHash P (PySem.Str.ofString "__next__"), (.str (PySem.Str.ofString "__next__") 700), (.ref 254)⟩, ⟨PyData.keyHash P (PySem.Str.ofString "__repr__"), (.str (PySem.Str.ofString "__repr__") 707), (.ref 261)⟩, ⟨PyData.keyHash P (PySem.Str.ofString "__static_attributes__"), (.str (PySem.Str.ofString "__static_attributes__") 711), (.ref 262)⟩, ⟨PyData.keyHash P (PySem.Str.ofString "_cnt"), (.str (PySem.Str.ofString "_cnt") 713), (.ref 266)⟩, ⟨PyData.keyHash P (PySem.Str.ofString "_fast"), (.str (PySem.Str.ofString "_fast") 715), (.ref 267)⟩, ⟨PyData.keyHash P (PySem.Str.ofString "_step"), (.str (PySem.Str.ofString "_step") 717), (.ref 268)⟩, ⟨PyData.keyHash P (PySem.Str.ofString "__doc__"), (.str (PySem.Str.ofString "__doc__") 718), .none⟩] 5), #[]⟩
noncomputable def o265 (P : Params) : Obj := ⟨(.type "type"), none, (.cls { name := (PySem.Str.ofString "count"), bases := [(.type "object")], mro := [(.ref 265), (.type "object")], ns := 264, qualname := (PySem.Str.ofString "count"), hasDict := false, slotNames := [(PySem.Str.ofString "_cnt"), (PySem.Str.ofString "_fast"), (PySem.Str.ofString "_step")], subclasses := [], abstract := false, collection := none, hasDel := false }), #[none, none, some (.str (PySem.Str.ofString "count") 656), some (.str (PySem.Str.ofString "count") 664), some (.builtin "object.__new__"), some (.bool false)]⟩
noncomputable def o266 (P : Params) : Obj := ⟨(.type "member_descriptor"), none, (.fields #[(.str (PySem.Str.ofString "_cnt") 712), (.ref 265), (.builtin "proto.slot"), (.builtin "proto.slot#set"), (.int 2 0)]), #[]⟩
noncomputable def o267 (P : Params) : Obj := ⟨(.type "member_descriptor"), none, (.fields #[(.str (PySem.Str.ofString "_fast") 714), (.ref 265), (.builtin "proto.slot"), (.builtin "proto.slot#set"), (.int 1 0)]), #[]⟩
noncomputable def o268 (P : Params) : Obj := ⟨(.type "member_descriptor"), none, (.fields #[(.str (PySem.Str.ofString "_step") 716), (.ref 265), (.builtin "proto.slot"), (.builtin "proto.slot#set"), (.int 0 0)]), #[]⟩
noncomputable def o284 (P : Params) : Obj := ⟨(.type "code"), none, (.fields #[(.str (PySem.Str.ofString "__init__") 740), (.str (PySem.Str.ofString "itemgetter.__init__") 741), (.str (PySem.Str.ofString "/claim/cut.py") 742), (.int 158 0), (.int 2 0), (.int 2 0), (.int 0 0), (.int 7 0), (.ref 279), (.bool true), (.int 386 0), (.ref 280), .none, (.ref 281), (.ref 282), (.ref 283), (.int 746 0), (.int 158 0), (.str (PySem.Str.ofString "/claim/cut.py") 747)]), #[]⟩
noncomputable def o285 (P : Params) : Obj := ⟨(.type "function"), none, (.func (fnOf (PySem.Str.ofString "__init__") (PySem.Str.ofString "itemgetter.__init__") (parOf (inSt 15 2)) (bodyOf (inSt 15 2)) (scOf (inSt 15 2)) .none .none (.str (PySem.Str.ofString "Initialize self.  See help(type(self)) for accurate signature.") 748) (.str (PySem.Str.ofString "operator") 721) none (.ref 284) .none)), #[]⟩
noncomputable def o291 (P : Params) : Obj := ⟨(.type "code"), none, (.fields #[(.str (PySem.Str.ofString "__call__") 750), (.str (PySem.Str.ofString "itemgetter.__call__") 751), (.str (PySem.Str.ofString "/claim/cut.py") 752), (.int 162 0), (.int 2 0), (.int 2 0), (.int 0 0), (.int 3 0), (.ref 286), (.bool true), (.int 386 0), (.ref 287), .none, (.ref 288), (.ref 289), (.ref 290), (.int 758 0), (.int 162 0), (.str (PySem.Str.ofString "/claim/cut.py") 759)]), #[]⟩
noncomputable def o292 (P : Params) : Obj := ⟨(.type "function"), none, (.func (fnOf (PySem.Str.ofString "__call__") (PySem.Str.ofString "itemgetter.__call__") (parOf (inSt 15 3)) (bodyOf (inSt 15 3)) (scOf (inSt 15 3)) .none .none (.str (PySem.Str.ofString "Call self as a function.") 760) (.str (PySem.Str.ofString "operator") 721) none (.ref 291) .none)), #[]⟩
noncomputable def o309 (P : Params) : Obj := ⟨(.type "dict"), none, (.dict #[⟨PyData.keyHash P (PySem.Str.ofString "__module__"), (.str (PySem.Str.ofString "__module__") 730), (.str (PySem.Str.ofString "operator") 721)⟩, ⟨PyData.keyHash P (PySem.Str.ofString "__firstlineno__"), (.str (PySem.Str.ofString "__firstlineno__") 734), (.int 152 733)⟩, ⟨PyData.keyHash P (PySem.Str.ofString "__doc__"), (.str (PySem.Str.ofString "__doc__") 736), (.str (PySem.Str.ofString "Return a callable object that fetches the given item(s) from its operand.\nAfter f = itemgetter(2), the call f(r) returns r[2].\nAfter g = itemgetter(2, 5, 3), the call g(r) returns (r[2], r[5], r[3])") 735)⟩, ⟨PyData.keyHash P (PySem.Str.ofString "__slots__"), (.str (PySem.Str.ofString "__slots__") 739), (.ref 278)⟩, ⟨PyData.keyHash P (PySem.Str.ofString "__init__"), (.str (PySem.Str.ofString "__init__") 749), (.ref 285)⟩, ⟨PyData.keyHash P (PySem.Str.ofString "__call__"), (.str (PySem.Str.ofString "__call__") 761), (.ref 292)⟩, ⟨PyData.keyHash P (PySem.Str.ofString "__repr__"), (.str (PySem.Str.ofString "__repr__") 770), (.ref 299)⟩, ⟨PyData.keyHash P (PySem.Str.ofString "__reduce__"), (.str (PySem.Str.ofString "__reduce__") 778), (.ref 306)⟩, ⟨PyData.keyHash P (PySem.Str.ofString "__static_attributes__"), (.str (PySem.Str.ofString "__static_attributes__") 780), (.ref 307)⟩, ⟨PyData.keyHash P (PySem.Str.ofString "_items"), (.str (PySem.Str.ofString "_items") 782), (.ref 311)⟩] 2), #[]⟩
noncomputable def o310 (P : Params) : Obj := ⟨(.type "type"), none, (.cls { name := (PySem.Str.ofString "itemgetter"), bases := [(.type "object")], mro := [(.ref 310), (.type "object")], ns := 309, qualname := (PySem.Str.ofString "itemgetter"), hasDict := false, slotNames := [(PySem.Str.ofString "_items")], subclasses := [], abstract := false, collection := none, hasDel := false }), #[none, none, some (.str (PySem.Str.ofString "itemgetter") 723), some (.str (PySem.Str.ofString "itemgetter") 731), some (.builtin "object.__new__"), some (.bool false)]⟩
noncomputable def o311 (P : Params) : Obj := ⟨(.type "member_descriptor"), none, (.fields #[(.str (PySem.Str.ofString "_items") 781), (.ref 310), (.builtin "proto.slot"), (.builtin "proto.slot#set"), (.int 0 0)]), #[]⟩
noncomputable def o314 (P : Params) : Obj := ⟨(.type "dict"), none, (.dict #[⟨PyData.keyHash P (PySem.Str.ofString "key"), (.str (PySem.Str.ofString "key") 789), .none⟩, ⟨PyData.keyHash P (PySem.Str.ofString "reverse"), (.str (PySem.Str.ofString "reverse") 790), (.bool false)⟩, ⟨PyData.keyHash P (PySem.Str.ofString "ties"), (.str (PySem.Str.ofString "ties") 791), (.str (PySem.Str.ofString "average") 787)⟩, ⟨PyData.keyHash P (PySem.Str.ofString "start"), (.str (PySem.Str.ofString "start") 792), (.int 1 788)⟩] 4), #[]⟩
noncomputable def o320 (P : Params) : Obj := ⟨(.type "code"), none, (.fields #[(.str (PySem.Str.ofString "_rank") 793), (.str (PySem.Str.ofString "_rank") 794), (.str (PySem.Str.ofString "/claim/cut.py") 795), (.int 185 0), (.int 1 0), (.int 1 0), (.int 4 0), (.int 3 0), (.ref 315), (.bool true), (.int 386 0), (.ref 316), .none, (.ref 317), (.ref 318), (.ref 319), (.int 811 0), (.int 185 0), (.str (PySem.Str.ofString "/claim/cut.py") 812)]), #[]⟩
noncomputable def o327 (P : Params) : Obj := ⟨(.type "code"), none, (.fields #[(.str (PySem.Str.ofString "_sqrtprod") 815), (.str (PySem.Str.ofString "_sqrtprod") 816), (.str (PySem.Str.ofString "/claim/cut.py") 817), (.int 231 0), (.int 2 0), (.int 0 0), (.int 0 0), (.int 3 0), (.ref 322), (.bool true), (.int 386 0), (.ref 323), .none, (.ref 324), (.ref 325), (.ref 326), (.int 823 0), (.int 231 0), (.str (PySem.Str.ofString "/claim/cut.py") 824)]), #[]⟩
noncomputable def o328 (P : Params) : Obj := ⟨(.type "function"), none, (.func (fnOf (PySem.Str.ofString "_sqrtprod") (PySem.Str.ofString "_sqrtprod") (parOf (topSt 18)) (bodyOf (topSt 18)) (scOf (topSt 18)) .none .none (.str (PySem.Str.ofString "Return sqrt(x * y) computed with improved accuracy and without overflow/underflow.") 825) (.str (PySem.Str.ofString "cpy313.statistics") 785) none (.ref 327) .none)), #[]⟩
noncomputable def o334 (P : Params) : Obj := ⟨(.type "code"), none, (.fields #[(.str (PySem.Str.ofString "covariance") 827), (.str (PySem.Str.ofString "covariance") 828), (.str (PySem.Str.ofString "/claim/cut.py") 829), (.int 246 0), (.int 2 0), (.int 2 0), (.int 0 0), (.int 3 0), (.ref 329), (.bool true), (.int 386 0), (.ref 330), .none, (.ref 331), (.ref 332), (.ref 333), (.int 836 0), (.int 246 0), (.str (PySem.Str.ofString "/claim/cut.py") 837)]), #[]⟩
noncomputable def o336 (P : Params) : Obj := ⟨(.type "dict"), none, (.dict #[⟨PyData.keyHash P (PySem.Str.ofString "method"), (.str (PySem.Str.ofString "method") 841), (.str (PySem.Str.ofString "linear") 840)⟩] 1), #[]⟩
noncomputable def o340 (P : Params) : Obj := ⟨(.type "code"), none, (.fields #[(.str (PySem.Str.ofString "correlation") 842), (.str (PySem.Str.ofString "correlation") 843), (.str (PySem.Str.ofString "/claim/cut.py") 844), (.int 272 0), (.int 2 0), (.int 2 0), (.int 1 0), (.int 3 0), (.ref 337), (.bool true), (.int 386 0), (.ref 338), .none, .none, .none, (.ref 339), (.int 845 0), (.int 272 0), (.str (PySem.Str.ofString "/claim/cut.py") 846)]), #[]⟩
noncomputable def o358 (P : Params) : Obj := ⟨(.type "code"), none, (.fields #[(.str (PySem.Str.ofString "__new__") 869), (.str (PySem.Str.ofString "LinearRegression.__new__") 870), (.str (PySem.Str.ofString "/claim/cut.py") 871), (.int 324 0), (.int 3 0), (.int 0 0), (.int 0 0), (.int 3 0), (.ref 353), (.bool true), (.int 386 0), (.ref 354), .none, (.ref 355), (.ref 356), (.ref 357), (.int 875 0), (.int 324 0), (.str (PySem.Str.ofString "/claim/cut.py") 876)]), #[]⟩
noncomputable def o359 (P : Params) : Obj := ⟨(.type "function"), none, (.func (fnOf (PySem.Str.ofString "__new__") (PySem.Str.ofString "LinearRegression.__new__") (parOf (inSt 21 4)) (bodyOf (inSt 21 4)) (scOf (inSt 21 4)) .none .none (.str (PySem.Str.ofString "Create new instance of LinearRegression(slope, intercept)") 877) (.str (PySem.Str.ofString "cpy313.statistics") 785) none (.ref 358) .none)), #[]⟩
noncomputable def o408 (P : Params) : Obj := ⟨(.type "dict"), none, (.dict #[⟨PyData.keyHash P (PySem.Str.ofString "__module__"), (.str (PySem.Str.ofString "__module__") 856), (.str (PySem.Str.ofString "cpy313.statistics") 785)⟩, ⟨PyData.keyHash P (PySem.Str.ofString "__firstlineno__"), (.str (PySem.Str.ofString "__firstlineno__") 860), (.int 318 859)⟩, ⟨PyData.keyHash P (PySem.Str.ofString "__doc__"), (.str (PySem.Str.ofString "__doc__") 862), (.str (PySem.Str.ofString "LinearRegression(slope, intercept)") 861)⟩, ⟨PyData.keyHash P (PySem.Str.ofString "__slots__"), (.str (PySem.Str.ofString "__slots__") 864), (.ref 350)⟩, ⟨PyData.keyHash P (PySem.Str.ofString "_fields"), (.str (PySem.Str.ofString "_fields") 867), (.ref 351)⟩, ⟨PyData.keyHash P (PySem.Str.ofString "_field_defaults"), (.str (PySem.Str.ofString "_field_defaults") 868), (.ref 352)⟩, ⟨PyData.keyHash P (PySem.Str.ofString "__new__"), (.str (PySem.Str.ofString "__new__") 878), (.ref 410)⟩, ⟨PyData.keyHash P (PySem.Str.ofString "_make"), (.str (PySem.Str.ofString "_make") 900), (.ref 368)⟩, ⟨PyData.keyHash P (PySem.Str.ofString "_replace"), (.str (PySem.Str.ofString "_replace") 911), (.ref 377)⟩, ⟨PyData.keyHash P (PySem.Str.ofString "__replace__"), (.str (PySem.Str.ofString "__replace__") 912), (.ref 377)⟩, ⟨PyData.keyHash P (PySem.Str.ofString "__repr__"), (.str (PySem.Str.ofString "__repr__") 920), (.ref 384)⟩, ⟨PyData.keyHash P (PySem.Str.ofString "_asdict"), (.str (PySem.Str.ofString "_asdict") 927), (.ref 391)⟩, ⟨PyData.keyHash P (PySem.Str.ofString "__getnewargs__"), (.str (PySem.Str.ofString "__getnewargs__") 935), (.ref 398)⟩, ⟨PyData.keyHash P (PySem.Str.ofString "__match_args__"), (.str (PySem.Str.ofString "__match_args__") 938), (.ref 399)⟩, ⟨PyData.keyHash P (PySem.Str.ofString "slope"), (.str (PySem.Str.ofString "slope") 948), (.ref 401)⟩, ⟨PyData.keyHash P (PySem.Str.ofString "intercept"), (.str (PySem.Str.ofString "intercept") 958), (.ref 404)⟩, ⟨PyData.keyHash P (PySem.Str.ofString "__static_attributes__"), (.str (PySem.Str.ofString "__static_attributes__") 959), (.ref 406)⟩] 2), #[]⟩
noncomputable def o409 (P : Params) : Obj := ⟨(.type "type"), none, (.cls { name := (PySem.Str.ofString "LinearRegression"), bases := [(.type "tuple")], mro := [(.ref 409), (.type "tuple"), (.type "object")], ns := 408, qualname := (PySem.Str.ofString "LinearRegression"), hasDict := false, slotNames := [], subclasses := [], abstract := false, collection := none, hasDel := false }), #[some (.ref 342), none, some (.str (PySem.Str.ofString "LinearRegression") 849), some (.str (PySem.Str.ofString "LinearRegression") 857), some .none, some (.bool false)]⟩
noncomputable def o410 (P : Params) : Obj := ⟨(.type "staticmethod"), none, (.fields #[(.ref 359)]), #[]⟩
noncomputable def o413 (P : Params) : Obj := ⟨(.type "dict"), none, (.dict #[⟨PyData.keyHash P (PySem.Str.ofString "proportional"), (.str (PySem.Str.ofString "proportional") 964), (.bool false)⟩] 1), #[]⟩
noncomputable def o417 (P : Params) : Obj := ⟨(.type "code"), none, (.fields #[(.str (PySem.Str.ofString "linear_regression") 965), (.str (PySem.Str.ofString "linear_regression") 966), (.str (PySem.Str.ofString "/claim/cut.py") 967), (.int 360 0), (.int 2 0), (.int 2 0), (.int 1 0), (.int 3 0), (.ref 414), (.bool true), (.int 386 0), (.ref 415), .none, .none, .none, (.ref 416), (.int 968 0), (.int 360 0), (.str (PySem.Str.ofString "/claim/cut.py") 969)]), #[]⟩
noncomputable def o424 (P : Params) : Obj := ⟨(.type "code"), none, (.fields #[(.str (PySem.Str.ofString "_buffer") 974), (.str (PySem.Str.ofString "_buffer") 975), (.str (PySem.Str.ofString "/claim/cut.py") 976), (.int 417 0), (.int 1 0), (.int 0 0), (.int 0 0), (.int 3 0), (.ref 419), (.bool true), (.int 386 0), (.ref 420), .none, (.ref 421), (.ref 422), (.ref 423), (.int 979 0), (.int 417 0), (.str (PySem.Str.ofString "/claim/cut.py") 980)]), #[]⟩
noncomputable def o425 (P : Params) : Obj := ⟨(.type "function"), none, (.func (fnOf (PySem.Str.ofString "_buffer") (PySem.Str.ofString "_buffer") (parOf (topSt 24)) (bodyOf (topSt 24)) (scOf (topSt 24)) .none .none .none (.str (PySem.Str.ofString "binascii") 972) none (.ref 424) .none)), #[]⟩
noncomputable def o431 (P : Params) : Obj := ⟨(.type "code"), none, (.fields #[(.str (PySem.Str.ofString "_truth") 982), (.str (PySem.Str.ofString "_truth") 983), (.str (PySem.Str.ofString "/claim/cut.py") 984), (.int 424 0), (.int 1 0), (.int 0 0), (.int 0 0), (.int 3 0), (.ref 426), (.bool true), (.int 386 0), (.ref 427), .none, (.ref 428), (.ref 429), (.ref 430), (.int 987 0), (.int 424 0), (.str (PySem.Str.ofString "/claim/cut.py") 988)]), #[]⟩
noncomputable def o432 (P : Params) : Obj := ⟨(.type "function"), none, (.func (fnOf (PySem.Str.ofString "_truth") (PySem.Str.ofString "_truth") (parOf (topSt 25)) (bodyOf (topSt 25)) (scOf (topSt 25)) .none .none .none (.str (PySem.Str.ofString "binascii") 972) none (.ref 431) .none)), #[]⟩
noncomputable def o433 (P : Params) : Obj := ⟨(.type "dict"), none, (.dict #[⟨PyData.keyHash P (PySem.Str.ofString "newline"), (.str (PySem.Str.ofString "newline") 992), (.bool true)⟩] 1), #[]⟩
noncomputable def o439 (P : Params) : Obj := ⟨(.type "code"), none, (.fields #[(.str (PySem.Str.ofString "b2a_base64") 993), (.str (PySem.Str.ofString "b2a_base64") 994), (.str (PySem.Str.ofString "/claim/cut.py") 995), (.int 430 0), (.int 1 0), (.int 1 0), (.int 1 0), (.int 3 0), (.ref 434), (.bool true), (.int 386 0), (.ref 435), .none, (.ref 436), (.ref 437), (.ref 438), (.int 1003 0), (.int 430 0), (.str (PySem.Str.ofString "/claim/cut.py") 1004)]), #[]⟩
noncomputable def o440 (P : Params) : Obj := ⟨(.type "function"), none, (.func (fnOf (PySem.Str.ofString "b2a_base64") (PySem.Str.ofString "b2a_base64") (parOf (topSt 27)) (bodyOf (topSt 27)) (scOf (topSt 27)) .none (.ref 433) .none (.str (PySem.Str.ofString "binascii") 972) none (.ref 439) .none)), #[]⟩
noncomputable def o441 (P : Params) : Obj := ⟨(.type "object"), none, .plain, #[]⟩
noncomputable def o442 (P : Params) : Obj := ⟨(.type "tuple"), none, (.seq #[(.ref 441), (.int 1 1007)] 0), #[]⟩
noncomputable def o448 (P : Params) : Obj := ⟨(.type "code"), none, (.fields #[(.str (PySem.Str.ofString "b2a_hex") 1008), (.str (PySem.Str.ofString "b2a_hex") 1009), (.str (PySem.Str.ofString "/claim/cut.py") 1010), (.int 453 0), (.int 3 0), (.int 0 0), (.int 0 0), (.int 3 0), (.ref 443), (.bool true), (.int 386 0), (.ref 444), .none, (.ref 445), (.ref 446), (.ref 447), (.int 1015 0), (.int 453 0), (.str (PySem.Str.ofString "/claim/cut.py") 1016)]), #[]⟩
noncomputable def o449 (P : Params) : Obj := ⟨(.type "function"), none, (.func (fnOf (PySem.Str.ofString "b2a_hex") (PySem.Str.ofString "b2a_hex") (parOf (topSt 29)) (bodyOf (topSt 29)) (scOf (topSt 29)) (.ref 442) .none .none (.str (PySem.Str.ofString "binascii") 972) none (.ref 448) .none)), #[]⟩
noncomputable def o450 (P : Params) : Obj := ⟨(.type "tuple"), none, (.seq #[.none] 0), #[]⟩
noncomputable def o456 (P : Params) : Obj := ⟨(.type "code"), none, (.fields #[(.str (PySem.Str.ofString "b64encode") 1021), (.str (PySem.Str.ofString "b64encode") 1022), (.str (PySem.Str.ofString "/claim/cut.py") 1023), (.int 471 0), (.int 2 0), (.int 0 0), (.int 0 0), (.int 3 0), (.ref 451), (.bool true), (.int 386 0), (.ref 452), .none, (.ref 453), (.ref 454), (.ref 455), (.int 1027 0), (.int 471 0), (.str (PySem.Str.ofString "/claim/cut.py") 1028)]), #[]⟩
noncomputable def o463 (P : Params) : Obj := ⟨(.type "code"), none, (.fields #[(.str (PySem.Str.ofString "b16encode") 1031), (.str (PySem.Str.ofString "b16encode") 1032), (.str (PySem.Str.ofString "/claim/cut.py") 1033), (.int 483 0), (.int 1 0), (.int 0 0), (.int 0 0), (.int 3 0), (.ref 458), (.bool true), (.int 386 0), (.ref 459), .none, (.ref 460), (.ref 461), (.ref 462), (.int 1035 0), (.int 483 0), (.str (PySem.Str.ofString "/claim/cut.py") 1036)]), #[]⟩
noncomputable def o464 (P : Params) : Obj := ⟨(.type "function"), none, (.func (fnOf (PySem.Str.ofString "b16encode") (PySem.Str.ofString "b16encode") (parOf (topSt 33)) (bodyOf (topSt 33)) (scOf (topSt 33)) .none .none (.str (PySem.Str.ofString "Encode the bytes-like object s using Base16 and return a bytes object.\n    ") 1037) (.str (PySem.Str.ofString "cpy313.base64") 1019) none (.ref 463) .none)), #[]⟩
noncomputable def o470 (P : Params) : Obj := ⟨(.type "code"), none, (.fields #[(.str (PySem.Str.ofString "_law_alts") 1041), (.str (PySem.Str.ofString "_law_alts") 1042), (.str (PySem.Str.ofString "/claim/cut.py") 1043), (.int 488 0), (.int 1 0), (.int 0 0), (.int 0 0), (.int 3 0), (.ref 465), (.bool true), (.int 386 0), (.ref 466), .none, (.ref 467), (.ref 468), (.ref 469), (.int 1046 0), (.int 488 0), (.str (PySem.Str.ofString "/claim/cut.py") 1047)]), #[]⟩
noncomputable def o471 (P : Params) : Obj := ⟨(.type "function"), none, (.func (fnOf (PySem.Str.ofString "_law_alts") (PySem.Str.ofString "_law_alts") (parOf (topSt 35)) (bodyOf (topSt 35)) (scOf (topSt 35)) .none .none .none (.str (PySem.Str.ofString "law_ij0047_01") 1039) none (.ref 470) .none)), #[]⟩
noncomputable def o477 (P : Params) : Obj := ⟨(.type "code"), none, (.fields #[(.str (PySem.Str.ofString "_law_sign") 1049), (.str (PySem.Str.ofString "_law_sign") 1050), (.str (PySem.Str.ofString "/claim/cut.py") 1051), (.int 491 0), (.int 2 0), (.int 0 0), (.int 0 0), (.int 3 0), (.ref 472), (.bool true), (.int 386 0), (.ref 473), .none, (.ref 474), (.ref 475), (.ref 476), (.int 1054 0), (.int 491 0), (.str (PySem.Str.ofString "/claim/cut.py") 1055)]), #[]⟩
noncomputable def o478 (P : Params) : Obj := ⟨(.type "function"), none, (.func (fnOf (PySem.Str.ofString "_law_sign") (PySem.Str.ofString "_law_sign") (parOf (topSt 36)) (bodyOf (topSt 36)) (scOf (topSt 36)) .none .none .none (.str (PySem.Str.ofString "law_ij0047_01") 1039) none (.ref 477) .none)), #[]⟩
noncomputable def o484 (P : Params) : Obj := ⟨(.type "code"), none, (.fields #[(.str (PySem.Str.ofString "_law_unlike") 1057), (.str (PySem.Str.ofString "_law_unlike") 1058), (.str (PySem.Str.ofString "/claim/cut.py") 1059), (.int 499 0), (.int 1 0), (.int 0 0), (.int 0 0), (.int 3 0), (.ref 479), (.bool true), (.int 386 0), (.ref 480), .none, (.ref 481), (.ref 482), (.ref 483), (.int 1063 0), (.int 499 0), (.str (PySem.Str.ofString "/claim/cut.py") 1064)]), #[]⟩
noncomputable def o485 (P : Params) : Obj := ⟨(.type "function"), none, (.func (fnOf (PySem.Str.ofString "_law_unlike") (PySem.Str.ofString "_law_unlike") (parOf (topSt 37)) (bodyOf (topSt 37)) (scOf (topSt 37)) .none .none .none (.str (PySem.Str.ofString "law_ij0047_01") 1039) none (.ref 484) .none)), #[]⟩
noncomputable def o491 (P : Params) : Obj := ⟨(.type "code"), none, (.fields #[(.str (PySem.Str.ofString "_law_ahead") 1066), (.str (PySem.Str.ofString "_law_ahead") 1067), (.str (PySem.Str.ofString "/claim/cut.py") 1068), (.int 505 0), (.int 3 0), (.int 0 0), (.int 0 0), (.int 3 0), (.ref 486), (.bool true), (.int 386 0), (.ref 487), .none, (.ref 488), (.ref 489), (.ref 490), (.int 1073 0), (.int 505 0), (.str (PySem.Str.ofString "/claim/cut.py") 1074)]), #[]⟩
noncomputable def o492 (P : Params) : Obj := ⟨(.type "function"), none, (.func (fnOf (PySem.Str.ofString "_law_ahead") (PySem.Str.ofString "_law_ahead") (parOf (topSt 38)) (bodyOf (topSt 38)) (scOf (topSt 38)) .none .none .none (.str (PySem.Str.ofString "law_ij0047_01") 1039) none (.ref 491) .none)), #[]⟩
noncomputable def o496 (P : Params) : Obj := ⟨(.type "code"), none, (.fields #[(.str (PySem.Str.ofString "law") 1076), (.str (PySem.Str.ofString "law") 1077), (.str (PySem.Str.ofString "/claim/cut.py") 1078), (.int 512 0), (.int 1 0), (.int 0 0), (.int 0 0), (.int 3 0), (.ref 493), (.bool true), (.int 386 0), (.ref 494), .none, .none, .none, (.ref 495), (.int 1079 0), (.int 512 0), (.str (PySem.Str.ofString "/claim/cut.py") 1080)]), #[]⟩
noncomputable def o497 (P : Params) : Obj := ⟨(.type "function"), none, (.func (fnOf (PySem.Str.ofString "law") (PySem.Str.ofString "law") (parOf (topSt 39)) (bodyOf (topSt 39)) (scOf (topSt 39)) .none .none .none (.str (PySem.Str.ofString "law_ij0047_01") 1039) none (.ref 496) .none)), #[]⟩
noncomputable def d321 : Obj := ⟨(.type "function"), none, (.func (fnOf (PySem.Str.ofString "_rank") (PySem.Str.ofString "_rank") (parOf (topSt 17)) (sansDoc (bodyOf (topSt 17))) (scOf (topSt 17)) .none (.ref 314) .none (.str (PySem.Str.ofString "cpy313.statistics") 785) none (.ref 320) .none)), #[]⟩
noncomputable def d335 : Obj := ⟨(.type "function"), none, (.func (fnOf (PySem.Str.ofString "covariance") (PySem.Str.ofString "covariance") (parOf (topSt 19)) (sansDoc (bodyOf (topSt 19))) (scOf (topSt 19)) .none .none .none (.str (PySem.Str.ofString "cpy313.statistics") 785) none (.ref 334) .none)), #[]⟩
noncomputable def d341 : Obj := ⟨(.type "function"), none, (.func (fnOf (PySem.Str.ofString "correlation") (PySem.Str.ofString "correlation") (parOf (topSt 20)) (sansDoc (bodyOf (topSt 20))) (scOf (topSt 20)) .none (.ref 336) .none (.str (PySem.Str.ofString "cpy313.statistics") 785) none (.ref 340) .none)), #[]⟩
noncomputable def d418 : Obj := ⟨(.type "function"), none, (.func (fnOf (PySem.Str.ofString "linear_regression") (PySem.Str.ofString "linear_regression") (parOf (topSt 22)) (sansDoc (bodyOf (topSt 22))) (scOf (topSt 22)) .none (.ref 413) .none (.str (PySem.Str.ofString "cpy313.statistics") 785) none (.ref 417) .none)), #[]⟩
noncomputable def d457 : Obj := ⟨(.type "function"), none, (.func (fnOf (PySem.Str.ofString "b64encode") (PySem.Str.ofString "b64encode") (parOf (topSt 32)) (sansDoc (bodyOf (topSt 32))) (scOf (topSt 32)) (.ref 450) .none .none (.str (PySem.Str.ofString "cpy313.base64") 1019) none (.ref 456) .none)), #[]⟩
noncomputable def KM (P : Params) : Frag :=
  (nat_lit 2, o2 P) :: (nat_lit 3, o3 P) :: (nat_lit 118, o118 P) :: (nat_lit 119, o119 P) :: (nat_lit 125, o125 P) :: (nat_lit 126, o126 P) :: (nat_lit 135, o135 P) :: (nat_lit 141, o141 P) ::
  (nat_lit 142, o142 P) :: (nat_lit 148, o148 P) :: (nat_lit 149, o149 P) :: (nat_lit 155, o155 P) :: (nat_lit 156, o156 P) :: (nat_lit 162, o162 P) :: (nat_lit 163, o163 P) :: (nat_lit 166, o166 P) ::
  (nat_lit 167, o167 P) :: (nat_lit 168, o168 P) :: (nat_lit 169, o169 P) :: (nat_lit 170, o170 P) :: (nat_lit 171, o171 P) :: (nat_lit 172, o172 P) :: (nat_lit 173, o173 P) :: (nat_lit 174, o174 P) ::
  (nat_lit 175, o175 P) :: (nat_lit 176, o176 P) :: (nat_lit 177, o177 P) :: (nat_lit 193, o193 P) :: (nat_lit 194, o194 P) :: (nat_lit 200, o200 P) :: (nat_lit 201, o201 P) :: (nat_lit 207, o207 P) ::
  (nat_lit 208, o208 P) :: (nat_lit 211, o211 P) :: (nat_lit 212, o212 P) :: (nat_lit 213, o213 P) :: (nat_lit 214, o214 P) :: (nat_lit 215, o215 P) :: (nat_lit 223, o223 P) :: (nat_lit 224, o224 P) ::
  (nat_lit 233, o233 P) :: (nat_lit 239, o239 P) :: (nat_lit 240, o240 P) :: (nat_lit 246, o246 P) :: (nat_lit 247, o247 P) :: (nat_lit 253, o253 P) :: (nat_lit 254, o254 P) :: (nat_lit 264, o264 P) ::
  (nat_lit 265, o265 P) :: (nat_lit 266, o266 P) :: (nat_lit 267, o267 P) :: (nat_lit 268, o268 P) :: (nat_lit 284, o284 P) :: (nat_lit 285, o285 P) :: (nat_lit 291, o291 P) :: (nat_lit 292, o292 P) ::
  (nat_lit 309, o309 P) :: (nat_lit 310, o310 P) :: (nat_lit 311, o311 P) :: (nat_lit 314, o314 P) :: (nat_lit 320, o320 P) :: (nat_lit 327, o327 P) :: (nat_lit 328, o328 P) :: (nat_lit 334, o334 P) ::
  (nat_lit 336, o336 P) :: (nat_lit 340, o340 P) :: (nat_lit 358, o358 P) :: (nat_lit 359, o359 P) :: (nat_lit 408, o408 P) :: (nat_lit 409, o409 P) :: (nat_lit 410, o410 P) :: (nat_lit 413, o413 P) ::
  (nat_lit 417, o417 P) :: (nat_lit 424, o424 P) :: (nat_lit 425, o425 P) :: (nat_lit 431, o431 P) :: (nat_lit 432, o432 P) :: (nat_lit 433, o433 P) :: (nat_lit 439, o439 P) :: (nat_lit 440, o440 P) ::
  (nat_lit 441, o441 P) :: (nat_lit 442, o442 P) :: (nat_lit 448, o448 P) :: (nat_lit 449, o449 P) :: (nat_lit 450, o450 P) :: (nat_lit 456, o456 P) :: (nat_lit 463, o463 P) :: (nat_lit 464, o464 P) ::
  (nat_lit 470, o470 P) :: (nat_lit 471, o471 P) :: (nat_lit 477, o477 P) :: (nat_lit 478, o478 P) :: (nat_lit 484, o484 P) :: (nat_lit 485, o485 P) :: (nat_lit 491, o491 P) :: (nat_lit 492, o492 P) ::
  (nat_lit 496, o496 P) :: (nat_lit 497, o497 P) :: []
noncomputable def KA : List Addr :=
  nat_lit 2 :: nat_lit 3 :: nat_lit 118 :: nat_lit 119 :: nat_lit 125 :: nat_lit 126 :: nat_lit 135 :: nat_lit 141 :: nat_lit 142 :: nat_lit 148 :: nat_lit 149 :: nat_lit 155 :: nat_lit 156 :: nat_lit 162 :: nat_lit 163 :: nat_lit 166 ::
  nat_lit 167 :: nat_lit 168 :: nat_lit 169 :: nat_lit 170 :: nat_lit 171 :: nat_lit 172 :: nat_lit 173 :: nat_lit 174 :: nat_lit 175 :: nat_lit 176 :: nat_lit 177 :: nat_lit 193 :: nat_lit 194 :: nat_lit 200 :: nat_lit 201 :: nat_lit 207 ::
  nat_lit 208 :: nat_lit 211 :: nat_lit 212 :: nat_lit 213 :: nat_lit 214 :: nat_lit 215 :: nat_lit 223 :: nat_lit 224 :: nat_lit 233 :: nat_lit 239 :: nat_lit 240 :: nat_lit 246 :: nat_lit 247 :: nat_lit 253 :: nat_lit 254 :: nat_lit 264 ::
  nat_lit 265 :: nat_lit 266 :: nat_lit 267 :: nat_lit 268 :: nat_lit 284 :: nat_lit 285 :: nat_lit 291 :: nat_lit 292 :: nat_lit 309 :: nat_lit 310 :: nat_lit 311 :: nat_lit 314 :: nat_lit 320 :: nat_lit 327 :: nat_lit 328 :: nat_lit 334 ::
  nat_lit 336 :: nat_lit 340 :: nat_lit 358 :: nat_lit 359 :: nat_lit 408 :: nat_lit 409 :: nat_lit 410 :: nat_lit 413 :: nat_lit 417 :: nat_lit 424 :: nat_lit 425 :: nat_lit 431 :: nat_lit 432 :: nat_lit 433 :: nat_lit 439 :: nat_lit 440 ::
  nat_lit 441 :: nat_lit 442 :: nat_lit 448 :: nat_lit 449 :: nat_lit 450 :: nat_lit 456 :: nat_lit 463 :: nat_lit 464 :: nat_lit 470 :: nat_lit 471 :: nat_lit 477 :: nat_lit 478 :: nat_lit 484 :: nat_lit 485 :: nat_lit 491 :: nat_lit 492 ::
  nat_lit 496 :: nat_lit 497 :: []
set_option backward.match.sparseCases false in
noncomputable def redocL (t : Str) : List Stmt → List Stmt
  | .Expr (.Constant (.str _) k p) q :: r => .Expr (.Constant (.str t) k p) q :: r
  | l => l
theorem redoc_undoc (l : List Stmt) : ∃ t, l = redocL t (undocL l) := by
  cases l with
  | nil => exact ⟨⟨#[]⟩, rfl⟩
  | cons a r =>
    cases a <;> try exact ⟨⟨#[]⟩, rfl⟩
    rename_i e q
    cases e <;> try exact ⟨⟨#[]⟩, rfl⟩
    rename_i c k p
    cases c <;> first | exact ⟨_, rfl⟩ | exact ⟨⟨#[]⟩, rfl⟩
set_option backward.match.sparseCases false in
noncomputable def undocB : FuncBody → FuncBody
  | .stmts l => .stmts (undocL l)
  | b => b
set_option backward.match.sparseCases false in
noncomputable def redocB (t : Str) : FuncBody → FuncBody
  | .stmts l => .stmts (redocL t l)
  | b => b
theorem redoc_undocB (b : FuncBody) : ∃ t, b = redocB t (undocB b) := by
  cases b with
  | stmts l => obtain ⟨t, e⟩ := redoc_undoc l; exact ⟨t, by show FuncBody.stmts l = .stmts _; rw [← e]⟩
  | expr e => exact ⟨⟨#[]⟩, rfl⟩
set_option backward.match.sparseCases false in
noncomputable def noDoc : Obj → Obj
  | ⟨c, d, .func f, sl⟩ => ⟨c, d, .func { f with doc := .none, body := undocB f.body }, sl⟩
  | o => o
set_option backward.match.sparseCases false in
noncomputable def withDoc (v : Value) (t : Str) : Obj → Obj
  | ⟨c, d, .func f, sl⟩ => ⟨c, d, .func { f with doc := v, body := redocB t f.body }, sl⟩
  | o => o
set_option backward.match.sparseCases false in
noncomputable def isFunc : Obj → Bool
  | ⟨_, _, .func _, _⟩ => true
  | _ => false
theorem withDoc_of {o o' : Obj} (h : noDoc o = o') (hf : isFunc o' = true) : ∃ v t, o = withDoc v t o' := by
  subst h
  obtain ⟨c, d, dt, sl⟩ := o
  cases dt <;> try (exact Bool.noConfusion (show false = true from hf))
  rename_i f
  obtain ⟨t, e⟩ := redoc_undocB f.body
  refine ⟨f.doc, t, ?_⟩
  show (⟨c, d, .func f, sl⟩ : Obj) = ⟨c, d, .func { f with doc := f.doc, body := redocB t (undocB f.body) }, sl⟩
  rw [← e]
noncomputable def DA : List Addr := [nat_lit 321, nat_lit 335, nat_lit 341, nat_lit 418, nat_lit 457]
noncomputable def DV : List Obj := [d321, d335, d341, d418, d457]
/-- the five defs whose docs are long: known up to the doc -/
structure Docs (h : Heap) : Prop where
  rank : ∃ v t, h.get? 321 = some (withDoc v t d321)
  cov : ∃ v t, h.get? 335 = some (withDoc v t d335)
  cor : ∃ v t, h.get? 341 = some (withDoc v t d341)
  lin : ∃ v t, h.get? 418 = some (withDoc v t d418)
  b64 : ∃ v t, h.get? 457 = some (withDoc v t d457)
theorem Docs.keeps {h h' : Heap} (D : Docs h) (k : ∀ b o, h.get? b = some o → h'.get? b = some o) : Docs h' :=
  ⟨let ⟨v, t, e⟩ := D.rank; ⟨v, t, k _ _ e⟩, let ⟨v, t, e⟩ := D.cov; ⟨v, t, k _ _ e⟩, let ⟨v, t, e⟩ := D.cor; ⟨v, t, k _ _ e⟩, let ⟨v, t, e⟩ := D.lin; ⟨v, t, k _ _ e⟩, let ⟨v, t, e⟩ := D.b64; ⟨v, t, k _ _ e⟩⟩
theorem km_keys (P : Params) : KA = (KM P).map (·.1) := by rfl
theorem docs_of1 {h : Heap} {a : Addr} {o' : Obj} (hf : isFunc o' = true) (e : (h.get? a).map noDoc = some o') : ∃ v t, h.get? a = some (withDoc v t o') := by
  obtain ⟨o, ho, e⟩ := Option.map_eq_some_iff.mp e
  obtain ⟨v, t, rfl⟩ := withDoc_of e hf
  exact ⟨v, t, ho⟩
theorem docs_of {h : Heap} (e : DA.map (fun a => (h.get? a).map noDoc) = DV.map some) : Docs h := by
  simp only [DA, DV, List.map_cons, List.map_nil, List.cons.injEq, and_true] at e
  obtain ⟨e1, e2, e3, e4, e5⟩ := e
  exact ⟨docs_of1 rfl e1, docs_of1 rfl e2, docs_of1 rfl e3, docs_of1 rfl e4, docs_of1 rfl e5⟩
noncomputable abbrev Seen : Type := List (Option Obj) × List (Option Obj)
noncomputable def seenOf (s : Shared) : Seen := (KA.map s.heap.get?, DA.map (fun a => (s.heap.get? a).map noDoc))
noncomputable def hookOf (val : World → Seen) : Hook where
  α := Seen
  obs := seenOf
  val := val
  says := fun w h => ∃ s : Shared, seenOf s = val w ∧ ∀ b o, s.heap.get? b = some o → h.get? b = some o
  of := fun _ s e => ⟨s, e, fun _ _ e => e⟩
  keeps := fun _ _ _ ⟨s, e, k⟩ k' => ⟨s, e, fun b o x => k' b o (k b o x)⟩
noncomputable def myVal (w : World) : Seen :=
  (some (o2 w.params) :: some (o3 w.params) :: some (o118 w.params) :: some (o119 w.params) :: some (o125 w.params) :: some (o126 w.params) :: some (o135 w.params) :: some (o141 w.params) ::
  some (o142 w.params) :: some (o148 w.params) :: some (o149 w.params) :: some (o155 w.params) :: some (o156 w.params) :: some (o162 w.params) :: some (o163 w.params) :: some (o166 w.params) ::
  some (o167 w.params) :: some (o168 w.params) :: some (o169 w.params) :: some (o170 w.params) :: some (o171 w.params) :: some (o172 w.params) :: some (o173 w.params) :: some (o174 w.params) ::
  some (o175 w.params) :: some (o176 w.params) :: some (o177 w.params) :: some (o193 w.params) :: some (o194 w.params) :: some (o200 w.params) :: some (o201 w.params) :: some (o207 w.params) ::
  some (o208 w.params) :: some (o211 w.params) :: some (o212 w.params) :: some (o213 w.params) :: some (o214 w.params) :: some (o215 w.params) :: some (o223 w.params) :: some (o224 w.params) ::
  some (o233 w.params) :: some (o239 w.params) :: some (o240 w.params) :: some (o246 w.params) :: some (o247 w.params) :: some (o253 w.params) :: some (o254 w.params) :: some (o264 w.params) ::
  some (o265 w.params) :: some (o266 w.params) :: some (o267 w.params) :: some (o268 w.params) :: some (o284 w.params) :: some (o285 w.params) :: some (o291 w.params) :: some (o292 w.params) ::
  some (o309 w.params) :: some (o310 w.params) :: some (o311 w.params) :: some (o314 w.params) :: some (o320 w.params) :: some (o327 w.params) :: some (o328 w.params) :: some (o334 w.params) ::
  some (o336 w.params) :: some (o340 w.params) :: some (o358 w.params) :: some (o359 w.params) :: some (o408 w.params) :: some (o409 w.params) :: some (o410 w.params) :: some (o413 w.params) ::
  some (o417 w.params) :: some (o424 w.params) :: some (o425 w.params) :: some (o431 w.params) :: some (o432 w.params) :: some (o433 w.params) :: some (o439 w.params) :: some (o440 w.params) ::
  some (o441 w.params) :: some (o442 w.params) :: some (o448 w.params) :: some (o449 w.params) :: some (o450 w.params) :: some (o456 w.params) :: some (o463 w.params) :: some (o464 w.params) ::
  some (o470 w.params) :: some (o471 w.params) :: some (o477 w.params) :: some (o478 w.params) :: some (o484 w.params) :: some (o485 w.params) :: some (o491 w.params) :: some (o492 w.params) ::
  some (o496 w.params) :: some (o497 w.params) :: [], DV.map some)
theorem said {w : World} {h : Heap} (y : (hookOf myVal).says w h) : (KM w.params).In h ∧ Docs h := by
  obtain ⟨s, e, k⟩ := y
  have e1 : KA.map s.heap.get? = (KM w.params).map (fun p => some p.2) := congrArg Prod.fst e
  exact ⟨InK.keeps w _ _ (InK.of km_keys w s e1) k, (docs_of (congrArg Prod.snd e)).keeps k⟩

noncomputable def touch (_ : OpenLaw) (_ : Params → Frag) : Prop := True
theorem touched : touch PySem.Challenge.rw_ij0047_01 KM := by k_fill; trivial

noncomputable abbrev tab0 : Obj := { cls := .none, data := .fields #[] }
noncomputable abbrev tabs2 : List (Option Obj) := some tab0 :: some tab0 :: []
noncomputable def hook2 : Hook where
  α := Seen × List (Option Obj)
  obs := fun s => (seenOf s, s.heap.get? 330 :: s.heap.get? 415 :: [])
  val := fun w => (myVal w, tabs2)
  says := fun w h => ∃ s : Shared, seenOf s = myVal w ∧ s.heap.get? 330 :: s.heap.get? 415 :: [] = tabs2 ∧ ∀ b o, s.heap.get? b = some o → h.get? b = some o
  of := fun _ s e => ⟨s, congrArg Prod.fst e, congrArg Prod.snd e, fun _ _ e => e⟩
  keeps := fun _ _ _ ⟨s, e, e2, k⟩ k' => ⟨s, e, e2, fun b o x => k' b o (k b o x)⟩
/-! the head: the top's run, looked at once -/
section
variable {tb : String → Option Builtin} {p : Program} {w : World} {n₀ : Nat} {ann : Option Value}
/-- the top's run over the heap as a tree -/
noncomputable def goTop (st : SharedT → Thread → Option (SharedT × Thread)) (ok : Thread → Bool) (n : Nat) : SharedT → Thread → Option SharedT :=
  @Nat.rec (fun _ => SharedT → Thread → Option SharedT) (fun _ _ => none) (fun _ ih s t => match through t with
    | true => some s
    | false => match ok t with
      | false => none
      | true => match st s t with
        | some (s', t') => ih s' t'
        | none => none) n
theorem goTop_of : ∀ {n : Nat} {s s' : SharedT} {t : Thread}, goTop (stepT (denote tb) p w) (stepOk n₀ ann) n s t = some s' → topRun tb p w n₀ ann n s.abs t = some s'.abs
  | 0, _, _, _, h => by cases h
  | n + 1, s, s', t, h => by
    change (match through t with
      | true => some s
      | false => match stepOk n₀ ann t with
        | false => none
        | true => match stepT (denote tb) p w s t with
          | some (s', t') => goTop (stepT (denote tb) p w) (stepOk n₀ ann) n s' t'
          | none => none) = some s' at h
    unfold topRun
    cases ht : through t with
    | true => rw [ht] at h; cases h; rfl
    | false =>
      rw [ht] at h
      cases hk : stepOk n₀ ann t with
      | false => rw [hk] at h; cases h
      | true =>
        rw [hk] at h
        cases hs : stepT (denote tb) p w s t with
        | none => rw [hs] at h; cases h
        | some r => obtain ⟨s₂, t₂⟩ := r; rw [hs] at h; rw [stepT_spec hs]; exact goTop_of h
/-- the opening's run -/
noncomputable def goImp (st : SharedT → Thread → Option (SharedT × Thread)) (n : Nat) : SharedT → Thread → Option SharedT :=
  @Nat.rec (fun _ => SharedT → Thread → Option SharedT) (fun _ _ => none) (fun _ ih s t => match t.atExitBegin with
    | some [] => some s
    | some (_ :: _) => none
    | none => match st s t with
      | some (s', t') => ih s' t'
      | none => none) n
theorem goImp_of : ∀ {n : Nat} {s s' : SharedT} {t : Thread}, goImp (stepT (denote tb) p w) n s t = some s' → importEnds tb p w n s.abs t = some s'.abs
  | 0, _, _, _, h => by cases h
  | n + 1, s, s', t, h => by
    change (match t.atExitBegin with
      | some [] => some s
      | some (_ :: _) => none
      | none => match stepT (denote tb) p w s t with
        | some (s', t') => goImp (stepT (denote tb) p w) n s' t'
        | none => none) = some s' at h
    unfold importEnds
    cases ht : t.atExitBegin with
    | some l =>
      rw [ht] at h
      cases l with
      | nil => cases h; rfl
      | cons => cases h
    | none =>
      rw [ht] at h
      cases hs : stepT (denote tb) p w s t with
      | none => rw [hs] at h; cases h
      | some r => obtain ⟨s₂, t₂⟩ := r; rw [hs] at h; rw [stepT_spec hs]; exact goImp_of h
end
noncomputable def growAll : List Obj → Nat → BT → Option BT
  | [], _, t => some t
  | o :: r, n, t => match ((t.ins n o).get n).isSome with
    | true => growAll r (n + 1) (t.ins n o)
    | false => none
theorem growAll_abs {life : Life} : ∀ {l : List Obj} {n : Nat} {t t' : BT}, growAll l n t = some t' → absHeap t' (n + l.length) life = ⟨(absHeap t n life).objs ++ l.toArray, life⟩
  | [], n, t, t', h => by
    cases h
    simp [absHeap]
  | o :: r, n, t, t', h => by
    unfold growAll at h
    cases hg : ((t.ins n o).get n).isSome with
    | false => rw [hg] at h; cases h
    | true =>
      rw [hg] at h
      have e := growAll_abs (life := life) h
      rw [absHeap_ins hg] at e
      rw [List.length_cons, show n + (r.length + 1) = n + 1 + r.length by omega, e]
      simp [Heap.push]
noncomputable def toTree (s : Shared) : Option SharedT := (growAll s.heap.objs.toList 0 .nil).map fun t => ⟨t, s.heap.objs.toList.length, s.heap.life, s.gens, s.drawn, s.toks, s.os⟩
theorem toTree_abs {s : Shared} {s' : SharedT} (h : toTree s = some s') : s'.abs = s := by
  obtain ⟨⟨⟨l⟩, life⟩, gs, d, k, os⟩ := s
  obtain ⟨t, ht, rfl⟩ := Option.map_eq_some_iff.mp h
  have e := growAll_abs (life := life) ht
  rw [Nat.zero_add] at e
  show (⟨absHeap t l.length life, gs, d, k, os⟩ : Shared) = _
  rw [e]
  simp [absHeap, BT.list]
/-- the whole head, computed: the opening, the fence, the top, the looks -/
noncomputable def headT (tb : String → Option Builtin) (p q : Program) (loose : List Str) (Xt : Shared → Bool) {α : Type} (Yf : Shared → α) (m₀ : Nat) (ann : Option Value) (N : Nat) (w : World) :=
  (toTree (start (opening p)).1).bind fun s0 => (goImp (stepT (denote tb) (opening p) w) N s0 (start (opening p)).2).bind fun s1 => (fenceModules? p s1.abs).bind fun s2 => (toTree s2).bind fun s3 =>
    (goTop (stepT (denote tb) p w) (stepOk m₀ ann) N s3 (topStub p)).map fun s =>
      ((s2.heap.isNs mainGlobals && s2.gens.size == 0, s2.heap.objs.toList.length, s2.heap.nsMap mainGlobals "__annotations__"),
       (staticsOk (importedModules p.main.body) s2.heap s.abs.heap && namesBound p s.abs.heap && gensDone s.abs && laidKept s2.heap s.abs.heap), openSeen q loose (importedModules p.main.body) Xt true s.abs, Yf s.abs)
theorem left_of_head {p q : Program} {loose : List Str} {Xt : Shared → Bool} {α : Type} {Yf : Shared → α} {Ya : World → α} {N : Nat} {m₀ : Nat} {ann : Option Value}
    (run : ∀ w : World, headT treeTable p q loose Xt Yf m₀ ann N w = some ((true, m₀, ann), true, openGood q loose, Ya w)) : LeftO p q loose Xt Yf Ya N := fun w => by
  obtain ⟨s0, h0, e⟩ := Option.bind_eq_some_iff.mp (run w)
  obtain ⟨s1, h1, e⟩ := Option.bind_eq_some_iff.mp e
  obtain ⟨s2, h2, e⟩ := Option.bind_eq_some_iff.mp e
  obtain ⟨s3, h3, e⟩ := Option.bind_eq_some_iff.mp e
  obtain ⟨s, h4, e⟩ := Option.map_eq_some_iff.mp e
  simp only [Prod.mk.injEq] at e
  obtain ⟨⟨z1, z2, z3⟩, l1, l2, l3⟩ := e
  have r1 := goImp_of h1
  rw [toTree_abs h0] at r1
  have r2 := goTop_of h4
  rw [toTree_abs h3] at r2
  have eo : fencedOpening treeTable p w N = some s2 := by
    unfold fencedOpening
    rw [r1]; exact h2
  have t : topFrom treeTable p w N s2 = some s.abs := by
    unfold topFrom
    rw [z1, show s2.heap.objs.size = m₀ from z2, z3]
    dsimp only
    rw [r2]
    show (match staticsOk (importedModules p.main.body) s2.heap s.abs.heap && namesBound p s.abs.heap && gensDone s.abs && laidKept s2.heap s.abs.heap with | true => _ | false => _) = _
    rw [l1]
  unfold openEnds
  rw [eo]
  show (topFrom treeTable p w N s2).map _ = _
  rw [t]
  exact congrArg some (Prod.ext l2 l3)
set_option backward.match.sparseCases false in
noncomputable def posOf : Stmt → Pos
  | .FunctionDef (pos := q) .. => q
  | _ => ⟨0, 0, 0, 0⟩
noncomputable def lawD : DefRec := { name := Str.ofString "law", params := parOf (topSt 39), body := bodyOf (topSt 39), scope := scOf (topSt 39), pos := posOf (topSt 39) }
/-- the view: the law alone -/
noncomputable def viewP : Program := { PySem.Challenge.pw_ij0047_01 with main := { PySem.Challenge.pw_ij0047_01.main with body := [topSt 39] } }
noncomputable def looseP : List Str := [Str.ofString "fsum", Str.ofString "isfinite", Str.ofString "isinf", Str.ofString "sqrt", Str.ofString "sumprod", Str.ofString "_wall", Str.ofString "_tuplegetter", Str.ofString "StatisticsError", Str.ofString "_MAXSIZE", Str.ofString "_is_int", Str.ofString "_pull", Str.ofString "_same", Str.ofString "groupby", Str.ofString "_grouper", Str.ofString "_count_kind", Str.ofString "count", Str.ofString "itemgetter", Str.ofString "_rank", Str.ofString "_sqrtprod", Str.ofString "covariance", Str.ofString "correlation", Str.ofString "LinearRegression", Str.ofString "linear_regression", Str.ofString "_buffer", Str.ofString "_truth", Str.ofString "_B64", Str.ofString "b2a_base64", Str.ofString "_NO_SEP", Str.ofString "b2a_hex", Str.ofString "hexlify", Str.ofString "b64encode", Str.ofString "b16encode", Str.ofString "_law_alts", Str.ofString "_law_sign", Str.ofString "_law_unlike", Str.ofString "_law_ahead"]
set_option maxRecDepth 100000 in
open PySem.W.Fast in
theorem head_run (w : World) : headT treeTable PySem.Challenge.pw_ij0047_01 viewP looseP (fun s => xlAt viewP [] s && recOk [] s) (Hook.obs hook2) 39 (some (.ref 6)) 7520 w = some ((true, 39, some (.ref 6)), true, openGood viewP looseP, Hook.val hook2 w) := by
  unfold headT
  rw [te10156331382660048174, te11892475500146522536, te14364793385576792824, te6613529449190102663, te4187177175401517315, te5923862056798008813]
  kernel_rfl
set_option maxRecDepth 100000 in
open PySem.W.Fast in
theorem law_said : PySem.Challenge.rw_ij0047_01.wellSaid = true := by
  kernel_rfl
set_option maxRecDepth 100000 in
theorem law_from (W : WalkO viewP looseP (XL viewP []) hook2.says PySem.Challenge.rw_ij0047_01.row.toRowW lawD [] (fun f vs => PySem.call f vs)) : PySem.Challenge.rw_ij0047_01.Holds := by
  refine holds_law law_said fun said => ?_
  refine holds_open (q := viewP) (loose := looseP) (Xt := fun s => xlAt viewP [] s && recOk [] s) (XP := XL viewP []) (Yf := Hook.obs hook2) (Ya := Hook.val hook2) (YP := Hook.says hook2) (d := lawD) (kwd := []) (N := 7520) (left_of_head head_run) (Hook.of hook2) (Hook.keeps hook2) (fun s e => xl_of s (Bool.and_eq_true_iff.mp e).1) XL.keeps (by kernel_rfl) (by kernel_rfl) (by kernel_rfl) (fun s e => recFacts_of (Bool.and_eq_true_iff.mp e).2) (by kernel_rfl) said (by decide +kernel) ⟨rfl, rfl, rfl, rfl, rfl, by decide +kernel⟩ ?hw W
  case hw => w_witness2

theorem rm0 {a m c : Nat} (h : a + m < c) : a < c := Nat.lt_of_le_of_lt (Nat.le_add_right a m) h
theorem rm1 {a m c k : Nat} (h : a + m < c) (e : Nat.ble k m = true) : a + k < c := Nat.lt_of_le_of_lt (Nat.add_le_add_left (Nat.le_of_ble_eq_true e) a) h
theorem rm2 {a m c k j : Nat} (h : a + m < c) (e : Nat.ble (k + j) m = true) : a + k + j < c := Nat.add_assoc a k j ▸ rm1 h e
theorem rm3 {a m c k j i : Nat} (h : a + m < c) (e : Nat.ble (k + j + i) m = true) : a + k + j + i < c := Nat.add_assoc a k j ▸ rm2 (k := k + j) h e
theorem rm4 {a m c k j i l : Nat} (h : a + m < c) (e : Nat.ble (k + j + i + l) m = true) : a + k + j + i + l < c := Nat.add_assoc a k j ▸ rm3 (k := k + j) h e
theorem tk1 {x k t a : Nat} (h : x + k ≤ t) (h2 : a ≤ x) : a ≤ t := Nat.le_trans h2 (Nat.le_trans (Nat.le_add_right x k) h)
theorem ne_up {a b : Nat} (h : a < b) (e : b = a) : False := Nat.ne_of_gt h e
theorem tkl1 {x k t a : Nat} (h : x + (k + 1) ≤ t) (h2 : a ≤ x) : a < t := Nat.lt_of_le_of_lt h2 (Nat.lt_of_lt_of_le (Nat.lt_add_of_pos_right (Nat.succ_pos k)) h)
theorem tkl2 {x k t a : Nat} (h : x + k < t) (h2 : a ≤ x) : a < t := Nat.lt_of_le_of_lt h2 (Nat.lt_of_le_of_lt (Nat.le_add_right x k) h)
theorem tkl3 {x t a : Nat} (h : x < t) (h2 : a ≤ x) : a < t := Nat.lt_of_le_of_lt h2 h
theorem tks1 {x t a : Nat} (h : x < t) (h2 : a ≤ x) : a ≤ t := Nat.le_of_lt (Nat.lt_of_le_of_lt h2 h)
theorem ltk {a m n : Nat} (h : m ≤ n) (e : Nat.ble (a + 1) m = true) : a < n := Nat.le_trans (Nat.le_of_ble_eq_true e) h
theorem lek {a m n : Nat} (h : m ≤ n) (e : Nat.ble a m = true) : a ≤ n := Nat.le_trans (Nat.le_of_ble_eq_true e) h
theorem ltu {n m k : Nat} (h : n < m) (e : Nat.ble m k = true) : n < k := Nat.le_trans h (Nat.le_of_ble_eq_true e)
theorem leu {n m k : Nat} (h : n < m) (e : Nat.ble m (k + 1) = true) : n ≤ k := Nat.le_of_lt_succ (Nat.le_trans h (Nat.le_of_ble_eq_true e))
theorem lteq {a b c : Nat} (e : c = b) (h : a < b) : a < c := e ▸ h
theorem abs64 {S : Int} (h : S.natAbs < 2 ^ 30) : (64 * S).natAbs < 2 ^ 53 := by
  rw [Int.natAbs_mul]
  exact Nat.lt_of_lt_of_le (Nat.mul_lt_mul_of_pos_left h (by decide)) (by decide)
local macro_rules | `(tactic| lcg_src) => `(tactic| (with_reducible first | exact rm0 (by assumption) | refine rm1 (by assumption) ?_ | refine rm2 (by assumption) ?_ | refine rm3 (by assumption) ?_ | refine rm4 (by assumption) ?_) <;> exact rfl)
local macro_rules | `(tactic| lcg_off) => `(tactic| with_reducible first
  | ((iterate 20 (first | done | assumption | exact Nat.lt_succ_self _ | exact Nat.lt_of_succ_lt (by assumption) | refine Nat.lt_add_right _ ?_ | refine Nat.lt_trans (by assumption) ?_ | refine Nat.lt_of_le_of_lt (by assumption) ?_)); done)
  | ((iterate 20 (first | done | assumption | exact Nat.lt_succ_self _ | exact Nat.lt_of_succ_lt (by assumption) | refine Nat.lt_add_right _ ?_ | refine Nat.lt_trans ?_ (by assumption) | refine Nat.lt_of_lt_of_le ?_ (by assumption))); done))
local macro_rules | `(tactic| omega) => `(tactic| first
  | with_reducible assumption
  | with_reducible exact Ne.symm (by assumption)
  | with_reducible exact Nat.le_of_ble_eq_true rfl
  | lcg_src
  | ((try dsimp only); (with_reducible first | refine Nat.ne_of_lt ?_ | refine Nat.le_of_lt ?_ | skip); lcg_off)
  | ((try dsimp only); (with_reducible refine ne_up ?_); lcg_off)
  | with_reducible exact Nat.succ_le_of_lt (by assumption)
  | with_reducible exact lteq (by assumption) (by assumption)
  | with_reducible exact abs64 (by assumption)
  | ((with_reducible first | refine ltk (by assumption) ?_ | refine lek (by assumption) ?_) <;> exact rfl)
  | ((with_reducible first | refine ltu (by assumption) ?_ | refine leu (by assumption) ?_) <;> exact rfl)
  | (with_reducible (try first | refine tkl1 (by assumption) ?_ | refine tkl2 (by assumption) ?_ | refine tkl3 (by assumption) ?_); with_reducible (iterate 90 (first | done | assumption | exact Nat.le_refl _ | dsimp only | refine tk1 (by assumption) ?_ | refine tks1 (by assumption) ?_ | refine Nat.le_trans ?_ (by assumption) | refine Nat.le_add_right_of_le ?_)); done))
local macro_rules | `(tactic| ktr_room) => `(tactic| ((try dsimp only [depth_under_make, depth_under_kw, depth_in1, depth_deeper, depth_caller]); lcg_src))
local macro_rules | `(tactic| ktr_units) => `(tactic| ((try dsimp only [units_in1, units_deeper, units_caller]); lcg_src))

/-! small sums: each proved once, with nothing else in sight -/
namespace Ar
theorem cast {a n : Nat} (h : a = n) : (a : Int) = (n : Int) := congrArg _ h
theorem le16 {n : Nat} (h : n < 64) : (n : Int) ≤ 16384 := by omega
theorem lt2 {n : Nat} (h : 2 ≤ n) : ¬ (n : Int) < 2 := by omega
theorem i0 {n : Nat} (h : 2 ≤ n) : ¬ (n : Int) = 0 := by omega
theorem b53 {n : Nat} (h : n < 64) : ((n : Int) * 256).natAbs < 2 ^ 53 := by omega
theorem nz {n : Nat} (h : 2 ≤ n) : ¬ (n : Int) * 256 = 0 := by omega
theorem p256 {n : Nat} (h : 2 ≤ n) : 0 < (n : Int) * 256 := by omega
theorem b128 {n : Nat} (h : n < 64) : (128 * ((n : Int) + 1)).natAbs < 2 ^ 53 := by omega
theorem pos {a n : Nat} (e : a = n) (h : 2 ≤ n) : 0 < a := by omega
theorem lt4 {a n : Nat} (e : a = n) (h : n < 64) : a < 4096 := by omega
theorem up0 (p : Nat) : 0 < 256 * ((p : Int) + 1) := by omega
theorem up30 {p n : Nat} (h : p < n) (hn : n < 64) : 256 * ((p : Int) + 1) < 2 ^ 30 := by omega
theorem d53 {p n : Nat} (h : p < n) (hn : n < 64) : (256 * ((p : Int) + 1) - 128 * ((n : Int) + 1)).natAbs < 2 ^ 53 := by omega
theorem cenE (p n : Nat) : 256 * ((p : Int) + 1) - 128 * ((n : Int) + 1) = 128 * (2 * (p : Int) - ((n : Int) - 1)) := by omega
theorem sq (n : Nat) : 128 * ((n : Int) * ((n : Int) + 1)) * 256 = 128 * ((n : Int) + 1) * ((n : Int) * 256) := by grind
theorem le_of {a n k : Nat} (e : a = n) (h : k < a) : k + 1 ≤ n := e ▸ h
theorem big {n : Nat} (h : n < 64) : ¬ 2 ^ 1024 - 2 ^ 970 ≤ (n : Int).natAbs := by omega
theorem i1 {n : Nat} (h : 2 ≤ n) : ¬ (n : Int) - 1 = 0 := by omega
theorem big1 {n : Nat} (h : n < 64) (h2 : 2 ≤ n) : ¬ 2 ^ 1024 - 2 ^ 970 ≤ ((n : Int) - 1).natAbs := by omega
theorem b531 {n : Nat} (h : n < 64) (h2 : 2 ≤ n) : (((n : Int) - 1) * 256).natAbs < 2 ^ 53 := by omega
theorem p2561 {n : Nat} (h2 : 2 ≤ n) : 0 < ((n : Int) - 1) * 256 := by omega
theorem c1023 {n : Nat} (h : n < 64) (h2 : 2 ≤ n) : ((n : Int) - 1).natAbs < 2 ^ 1023 := by omega
theorem d0 {d : Int} (h : 0 < d ∧ d < 2 ^ 17) : ¬ 64 * d = 0 := by omega
theorem dp {d : Int} (h : 0 < d ∧ d < 2 ^ 17) : 0 < 64 * d := by omega
theorem dz {d : Int} (h : d.natAbs < 2 ^ 30) : (64 * d + 0).natAbs < 2 ^ 53 := by omega
theorem three {a b c : Int} (h : 3 * a = c) (k : 3 * b = c) : b = a := by omega
theorem nadd {u v : Int} {A B C : Nat} (hu : u.natAbs < A) (hv : v.natAbs < B) (h : A + B ≤ C) : (u + v).natAbs < C := Nat.lt_of_le_of_lt (Int.natAbs_add_le u v) (Nat.lt_of_lt_of_le (Nat.add_lt_add hu hv) h)
theorem cl (u v : Int) : u + v - u = v := by omega
theorem cr (u v : Int) : u + v - v = u := by omega
theorem q1 {a : Nat} (h : a < 65536) : a / 1024 < 64 := Nat.div_lt_of_lt_mul h
theorem q2 (a : Nat) : a / 16 % 64 < 64 := Nat.mod_lt _ (by decide)
theorem q3 (a : Nat) : a % 16 * 4 < 64 := Nat.mul_lt_mul_of_pos_right (Nat.mod_lt a (by decide : 16 > 0)) (by decide)
theorem q4 (a : Nat) : a / 256 / 4 = a / 1024 := Nat.div_div_eq_div_mul a 256 4
theorem q5 (a : Nat) : a / 256 * 256 + a % 256 = a := Nat.div_add_mod' a 256
theorem digits {a b : Nat} (e : a / 1024 = b / 1024) (f : a / 16 % 64 = b / 16 % 64) (g : a % 16 * 4 = b % 16 * 4) : a = b := by
  have h1 : a % 16 = b % 16 := Nat.eq_of_mul_eq_mul_right (by decide) g
  have e' : a / 16 / 64 = b / 16 / 64 := by rw [Nat.div_div_eq_div_mul, Nat.div_div_eq_div_mul]; exact e
  have h2 : a / 16 = b / 16 := (Nat.div_add_mod (a / 16) 64).symm.trans ((by rw [e', f] : 64 * (a / 16 / 64) + a / 16 % 64 = 64 * (b / 16 / 64) + b / 16 % 64).trans (Nat.div_add_mod (b / 16) 64))
  exact (Nat.div_add_mod a 16).symm.trans ((by rw [h1, h2] : 16 * (a / 16) + a % 16 = 16 * (b / 16) + b % 16).trans (Nat.div_add_mod b 16))
theorem neg64 (n : Nat) : -2 ^ 64 < (n : Int) := by omega
theorem up64 {n : Nat} (h : n < 2 ^ 8) : (n : Int) < 2 ^ 64 := by omega
theorem c64 {n : Nat} (h : n < 64) : (n : Int) < 64 := by omega
theorem ne0 {a : Nat} {v : Int} (e : (a : Int) = v) (h : 0 < v) : 0 < a := by omega
theorem nap {v : Int} (h : 0 < v) : 0 < v.natAbs := Int.natAbs_pos.2 (Int.ne_of_gt h)
theorem dd1 {c a d s : Int} (e : s = a) (h : 3 * d = c - 6 * a) : c - s * 6 = 3 * d := by omega
theorem min11 (n : Nat) : min 11 (n + 1) - 1 = min 10 n := by rw [show 11 = 10 + 1 from rfl, Nat.add_min_add_right]; rfl
theorem sub1 {n : Nat} (h : 2 ≤ n) : (n : Int) - 1 = ((n - 1 : Nat) : Int) := by omega
theorem n128 {n : Nat} (h : n < 64) : 128 * (n - 1) < 2 ^ 53 := by omega
theorem d1 {d e c : Int} (h : 3 * d = c) (hd : 0 < d) (k : e = c) : (e.natAbs : Int) = e := by omega
theorem dn {d : Int} (hd : 0 < d) : ((64 * d).natAbs : Int) = 64 * d := by omega
theorem spearL {x a b d c : Int} (h : 2 * x = a + b - 4 * d) (h1 : 3 * a = c) (h2 : 3 * b = c) : 3 * x = c - 6 * d := by omega
theorem jlt {j f n : Nat} (h : j + (f + 1) = n) : j < n := h ▸ Nat.lt_add_of_pos_right (Nat.succ_pos f)
theorem jn {j f n : Nat} (h : j + (f + 1) = n) : j + 1 + f = n := (Nat.add_right_comm j 1 f).trans h
theorem dec {n i : Nat} (h : i < n) : n + 1 - (i + 1) < n + 1 - i := Nat.sub_succ_lt_self _ _ (Nat.lt_succ_of_lt h)
theorem hi8 {a : Nat} (h : a < 65536) : a / 256 % 2 ^ 8 = a / 256 := Nat.mod_eq_of_lt (Nat.div_lt_of_lt_mul h)
theorem lo8 (a : Nat) : a % 256 % 2 ^ 8 = a % 256 := Nat.mod_eq_of_lt (Nat.mod_lt a (by decide))
theorem n12 {n : Nat} (h : 2 ≤ n) : (n : Int) * 12 - 12 = ((12 * (n - 1) : Nat) : Int) := by omega
theorem n12p {n : Nat} (h : 2 ≤ n) : 0 < (n : Int) * 12 - 12 := by omega
theorem n256 {n : Nat} (h : 2 ≤ n) : ((n : Int) - 1) * 256 = (((n - 1) * 256 : Nat) : Int) := by omega
theorem lo63 (n : Nat) : -2 ^ 63 ≤ (n : Int) := by omega
theorem hi63 {n : Nat} (h : n < 64) : (n : Int) < 2 ^ 63 := by omega
theorem mega {n : Nat} (h : n < 64) : (n : Int) ≤ ((1048576 : Nat) : Int) := by omega
theorem rec1 {n : Nat} (h2 : 2 ≤ n) (h : n < 64) : (-(128 * ((n : Int) - 1)) - 1 * 256).natAbs < 2 ^ 40 := by omega
theorem frE (n j : Nat) : -(128 * ((n : Int) - 1)) - 1 * 256 + 256 * (j : Int) + 256 = 128 * (2 * (j : Int) - ((n : Int) - 1)) := by omega
theorem cenA {n k : Nat} (hk : k < n) (hn : n < 64) : (2 * (k : Int) - ((n : Int) - 1)).natAbs < 64 := by omega
theorem cen53 {c : Int} (h : c.natAbs < 64) : (128 * c).natAbs < 2 ^ 53 := by rw [Int.natAbs_mul]; exact Nat.lt_trans (Nat.mul_lt_mul_of_pos_left h (by decide)) (by decide)
theorem fiE (u : Int) (k : Nat) : u + 256 * (k : Int) + 1 * 256 = u + 256 * ((k + 1 : Nat) : Int) := by omega
theorem fiA {u : Int} {k : Nat} (h : u.natAbs < 2 ^ 40) (hk : k + 1 < 4096) : (u + 256 * (k : Int) + 1 * 256).natAbs < 2 ^ 53 := Ar.nadd (Ar.nadd h (B := 2 ^ 30) (by rw [Int.natAbs_mul]; exact Nat.lt_of_lt_of_le (Nat.mul_lt_mul_of_pos_left (Nat.lt_of_succ_lt hk) (by decide)) (by decide)) (Nat.le_refl _)) (B := 257) (by decide) (by decide)
theorem len64 {a b n : Nat} (h1 : a ≤ 3 + b) (h2 : b ≤ n) (h3 : n ≤ 10) : a < 64 := Nat.lt_of_le_of_lt (Nat.le_trans h1 (Nat.add_le_add_left (Nat.le_trans h2 h3) 3)) (by decide)
theorem s17 {S : Int} (h : 0 < S) (k : S < 2 ^ 17) : S.natAbs < 2 ^ 17 := by omega
theorem sq40 {S : Int} (h : S.natAbs < 2 ^ 17) : (16 * S * S).natAbs < 2 ^ 40 := by
  rw [Int.natAbs_mul, Int.natAbs_mul, Nat.mul_assoc]
  exact Nat.lt_of_le_of_lt (Nat.mul_le_mul_left _ (Nat.mul_le_mul (Nat.le_of_lt h) (Nat.le_of_lt h))) (by decide)
theorem k53 {S k : Int} (h : S.natAbs < 2 ^ 17) (hk : k.natAbs ≤ 2 ^ 30) : (k * S).natAbs < 2 ^ 53 := by
  rw [Int.natAbs_mul]
  exact Nat.lt_of_le_of_lt (Nat.mul_le_mul hk (Nat.le_of_lt h)) (by decide)
theorem lo62 (n : Nat) : -2 ^ 62 ≤ (n : Int) := by omega
theorem hi62 {n : Nat} (h : n < 64) : (n : Int) < 2 ^ 62 := by omega
theorem at1 (i : Nat) : (0 : Int) + (i : Int) * 1 = (i : Int) := by rw [Int.zero_add, Int.mul_one]
theorem dif {x y : Int} (h : 0 ≤ x ∧ x < 64) (k : 0 ≤ y ∧ y < 64) : (x - y).natAbs < 2 ^ 64 := by omega
theorem m16 (x : Nat) : -2 ^ 64 < (x : Int) % 16 ∧ (x : Int) % 16 < 2 ^ 64 := by omega
theorem v62 {v : Nat} (h : v < 64) (k : ¬ (v : Int) < 62) : v = 62 ∨ v = 63 := by omega
theorem lt63 {i n a : Nat} (h : i < n) (e : a = n) (hn : n < 64) : 0 ≤ (i : Int) ∧ (i : Int) < (a : Int) ∧ (i : Int) < 2 ^ 63 := by omega
theorem v62b {v : Nat} (h : v < 64) (k : ¬ (v : Int) < 62) : 0 ≤ (v : Int) - 62 ∧ (v : Int) - 62 < 2 := by omega
end Ar

theorem gt_up {α : Type} {M : Model} {A : Around} {t : Sem α} {Q : α → Shared → Prop} {E : Value → Shared → Prop} {h : Heap} {g : Array GenState} {d : Drawn} {X Y : Nat} {os : OsState} (hXY : X ≤ Y)
    (k : ∀ tk, X ≤ tk → wpAny M A t Q E ⟨h, g, d, tk, os⟩) : wpAny M A t Q E ⟨h, g, d, Y, os⟩ := k Y hXY
theorem gt_one {α : Type} {M : Model} {A : Around} {t : Sem α} {Q : α → Shared → Prop} {E : Value → Shared → Prop} {h : Heap} {g : Array GenState} {d : Drawn} {X : Nat} {os : OsState}
    (k : ∀ tk : Nat, X + 1 ≤ tk → wpAny M A t Q E ⟨h, g, d, tk, os⟩) : wpAny M A t Q E ⟨h, g, d, X + 1, os⟩ := k _ (Nat.le_refl _)
section
variable {prog : Program} {w : World} {A : Around} {E : Value → Shared → Prop} {s : Shared} {h₀ : Heap} {L it l : Addr} {m : Str → Option Value} {news : List (Addr × Obj)} {g : Obj → List (Addr × Obj)} {vs : Array Value} {v : Value} {i : Int} {j : Nat} {ob : Bool}
noncomputable def liObj (l : Addr) (i : Int) : Obj := ⟨.type "list_iterator", none, .fields #[.ref l, .int i 0], #[]⟩
theorem call_next_item {Q : Value → Shared → Prop} (ho : s.heap.get? it = some (liObj l j)) (hl : s.heap.IsList l vs) (hx : vs[j]? = some v)
    (hQ : ∀ h', h'.get? it = some (liObj l (j + 1 : Nat)) → Heap.SameBut it s.heap h' → Q v { s with heap := h' }) : wpAny (model prog w) A (call (.builtin "next") [.ref it]) Q E s := by
  have hit : s.heap.IsListIter it l j := ⟨_, ho, rfl, rfl⟩
  refine call_function_entry (by decide +kernel) (by decide +kernel) kdk_entry_next (kdk_args_next _) ?_
  unfold Builtin.«next»
  refine wpAny_bind (m := someArgs "next" 1 2 _) (wpAny_of_eq (a := [Value.ref it]) (by first | rfl | kernel_rfl!) ?_)
  dsimp only
  refine wpAny_bind (wpAny_specialOf (name := Str.ofString "__next__") hit.typeIs slot_listiter_next.lookup ?_)
  refine wpAny_ite_split (fun hab => absurd hab (by decide)) (fun _ => ?_)
  obtain ⟨ol, hol, _, nl, hdl⟩ := hl
  have hd : (liObj l j).data = .fields #[.ref l, .int j 0] := rfl
  refine wpAny_bind (wpAny_callSpecial?_slot (name := Str.ofString "__next__") hit.typeIs slot_listiter_next
    (wpAny_call_entry slot_listiter_next hit.typeIs entry_listiter_next ?_ (args_listiter_next _)))
  show wpAny _ _ (field (.ref it) 0 >>= _) _ _ s
  refine wpAny_bind (wpAny_field ho hd (x := .ref l) rfl ?_)
  show wpAny _ _ (if (Value.ref l == Value.none) = true then _ else _) _ _ s
  rw [if_neg (show ¬ ((Value.ref l == Value.none) = true) from Bool.false_ne_true)]
  show wpAny _ _ (field (.ref it) 1 >>= _) _ _ s
  refine wpAny_bind (wpAny_field ho hd (x := .int j 0) rfl ?_)
  show wpAny _ _ (seqItems? (.ref l) >>= _) _ _ s
  refine wpAny_bind (wpAny_seqItems hol hdl ?_)
  simp only [Int.toNat_natCast, hx]
  refine wpAny_bind (wpAny_setField ho hd (by simp) (wpAny_pure ⟨v, rfl, wpAny_pure ⟨_, rfl, (hQ _ ?_ (Heap.SameBut.update ..))⟩⟩))
  rw [Heap.get?_update_self _ ho (Obj.isFreed_of_fields (Obj.data_mapFields hd _))]
  simp [Obj.mapFields, liObj, rawInt]
theorem next_item {Q : Value → Shared → Prop} {ol : Obj} (F : Fr h₀ L s.heap m) (N : News h₀ L s.heap news) (U : UpdF it (liObj l j) news g) (hp : (l, ol) ∈ news) (hol : ol.cls = .type "list") (hod : ∃ ep, ol.data = .seq vs ep) (hx : vs[j]? = some v)
    (h : ∀ h', Fr h₀ L h' m → News h₀ L h' (g (liObj l (j + 1 : Nat))) → Q v { s with heap := h' }) :
    wpAny (model prog w) A (call (.builtin "next") [.ref it]) Q E s := by
  obtain ⟨pre, post, hl, hg, a, b⟩ := U.split
  have hmem : (it, liObj l j) ∈ news := by rw [hl]; exact List.mem_append_right _ (.head _)
  have hm := N (it, _) hmem
  refine call_next_item hm.1 ⟨ol, (N _ hp).1, hol, hod⟩ hx fun h' hit' hs => ?_
  exact h h' (F.change hs hm.2.1 hm.2.2) (hg _ ▸ (show News h₀ L s.heap (pre ++ (it, _) :: post) from hl ▸ N).setIn a b hs hit')
noncomputable def liDead (i : Int) : Obj := ⟨.type "list_iterator", none, .fields #[.none, .int i 0], #[]⟩
theorem call_next_end {Q : Value → Shared → Prop} (hh : A.handled = none) (ho : s.heap.get? it = some (liObj l j)) (hl : s.heap.IsList l vs) (hx : vs[j]? = none)
    (hE : ∀ h₁ h' e, h₁.get? it = some (liDead j) → Heap.SameBut it s.heap h₁ → Heap.MadeExc h₁ h' e "StopIteration" [] → E (.ref e) { s with heap := h' }) : wpAny (model prog w) A (call (.builtin "next") [.ref it]) Q E s := by
  have hit : s.heap.IsListIter it l j := ⟨_, ho, rfl, rfl⟩
  refine call_function_entry (by decide +kernel) (by decide +kernel) kdk_entry_next (kdk_args_next _) ?_
  unfold Builtin.«next»
  refine wpAny_bind (m := someArgs "next" 1 2 _) (wpAny_of_eq (a := [Value.ref it]) (by first | rfl | kernel_rfl!) ?_)
  dsimp only
  refine wpAny_bind (wpAny_specialOf (name := Str.ofString "__next__") hit.typeIs slot_listiter_next.lookup ?_)
  refine wpAny_ite_split (fun hab => absurd hab (by decide)) (fun _ => ?_)
  obtain ⟨ol, hol, _, nl, hdl⟩ := hl
  have hd : (liObj l j).data = .fields #[.ref l, .int j 0] := rfl
  refine wpAny_bind (wpAny_callSpecial?_slot (name := Str.ofString "__next__") hit.typeIs slot_listiter_next
    (wpAny_call_entry slot_listiter_next hit.typeIs entry_listiter_next ?_ (args_listiter_next _)))
  show wpAny _ _ (field (.ref it) 0 >>= _) _ _ s
  refine wpAny_bind (wpAny_field ho hd (x := .ref l) rfl ?_)
  show wpAny _ _ (if (Value.ref l == Value.none) = true then _ else _) _ _ s
  rw [if_neg (show ¬ ((Value.ref l == Value.none) = true) from Bool.false_ne_true)]
  show wpAny _ _ (field (.ref it) 1 >>= _) _ _ s
  refine wpAny_bind (wpAny_field ho hd (x := .int j 0) rfl ?_)
  show wpAny _ _ (seqItems? (.ref l) >>= _) _ _ s
  refine wpAny_bind (wpAny_seqItems hol hdl ?_)
  simp only [Int.toNat_natCast, hx]
  refine wpAny_bind (wpAny_rule (wpAny_bind (wpAny_setField ho hd (by simp) ?_)))
  show wpAny _ _ (newExc (.type "StopIteration") [] >>= _) _ _ _
  refine wpAny_bind ?_
  simp only [newExc, newTuple]
  refine wpAny_bind (wpAny_newObj_type ?_ (by size_fits))
  refine wpAny_bind (m := firstArgMember _ _) (wpAny_of_eq (a := Value.none) (by first | rfl | (simp only [firstArgMember]; rfl)) ?_)
  refine wpAny_newObj_type ?_ (by size_fits)
  simp only [raiseNew]
  refine wpAny_bind (wpAny_handled ?_)
  first | rw [show A.in1.handled = none from hh] | rw [hh]
  refine wpAny_bind (wpAny_pure (wpAny_throw ?_))
  refine hE _ _ _ ?_ (Heap.SameBut.update ..) ⟨fun b o hb => Heap.get?_push_of_some _ (Heap.get?_push_of_some _ hb), Heap.get?_none_of_le (by simp), _, Heap.get?_push_size _ rfl, Heap.get?_none_of_le (Nat.le_refl _), Heap.get?_push_of_some _ (Heap.get?_push_size _ rfl)⟩
  rw [Heap.get?_update_self _ ho (Obj.isFreed_of_fields (Obj.data_mapFields hd _))]
  simp [Obj.mapFields, liObj, liDead, rawInt]
theorem next_end {Q : Value → Shared → Prop} {ol : Obj} (hh : A.handled = none) (F : Fr h₀ L s.heap m) (N : News h₀ L s.heap news) (U : UpdF it (liObj l j) news g) (hp : (l, ol) ∈ news) (hol : ol.cls = .type "list") (hod : ∃ ep, ol.data = .seq vs ep) (hx : vs[j]? = none)
    (h : ∀ h₁ h' e, Fr h₀ L h₁ m → News h₀ L h₁ (g (liDead j)) → Heap.MadeExc h₁ h' e "StopIteration" [] → E (.ref e) { s with heap := h' }) :
    wpAny (model prog w) A (call (.builtin "next") [.ref it]) Q E s := by
  obtain ⟨pre, post, hl, hg, a, b⟩ := U.split
  have hmem : (it, liObj l j) ∈ news := by rw [hl]; exact List.mem_append_right _ (.head _)
  have hm := N (it, _) hmem
  refine call_next_end hh hm.1 ⟨ol, (N _ hp).1, hol, hod⟩ hx fun h₁ h' e hit' hs hM => ?_
  exact h h₁ h' e (F.change hs hm.2.1 hm.2.2) (hg _ ▸ (show News h₀ L s.heap (pre ++ (it, _) :: post) from hl ▸ N).setIn a b hs hit') hM
theorem call_next_dead {Q : Value → Shared → Prop} (hh : A.handled = none) (ho : s.heap.get? it = some (liDead j))
    (hE : ∀ h' e, Heap.MadeExc s.heap h' e "StopIteration" [] → E (.ref e) { s with heap := h' }) : wpAny (model prog w) A (call (.builtin "next") [.ref it]) Q E s := by
  have hit : s.TypeIs (.ref it) "list_iterator" := ⟨_, ho, rfl⟩
  refine call_function_entry (by decide +kernel) (by decide +kernel) kdk_entry_next (kdk_args_next _) ?_
  unfold Builtin.«next»
  refine wpAny_bind (m := someArgs "next" 1 2 _) (wpAny_of_eq (a := [Value.ref it]) (by first | rfl | kernel_rfl!) ?_)
  dsimp only
  refine wpAny_bind (wpAny_specialOf (name := Str.ofString "__next__") hit slot_listiter_next.lookup ?_)
  refine wpAny_ite_split (fun hab => absurd hab (by decide)) (fun _ => ?_)
  have hd : (liDead j).data = .fields #[.none, .int j 0] := rfl
  refine wpAny_bind (wpAny_callSpecial?_slot (name := Str.ofString "__next__") hit slot_listiter_next
    (wpAny_call_entry slot_listiter_next hit entry_listiter_next ?_ (args_listiter_next _)))
  show wpAny _ _ (field (.ref it) 0 >>= _) _ _ s
  refine wpAny_bind (wpAny_field ho hd (x := .none) rfl ?_)
  show wpAny _ _ (if (Value.none == Value.none) = true then _ else _) _ _ s
  rw [if_pos (show ((Value.none == Value.none) = true) from rfl)]
  refine wpAny_bind (wpAny_rule (wpAny_bind ?_))
  show wpAny _ _ (newExc (.type "StopIteration") [] >>= _) _ _ _
  refine wpAny_bind ?_
  simp only [newExc, newTuple]
  refine wpAny_bind (wpAny_newObj_type ?_ (by size_fits))
  refine wpAny_bind (m := firstArgMember _ _) (wpAny_of_eq (a := Value.none) (by first | rfl | (simp only [firstArgMember]; rfl)) ?_)
  refine wpAny_newObj_type ?_ (by size_fits)
  simp only [raiseNew]
  refine wpAny_bind (wpAny_handled ?_)
  first | rw [show A.in1.handled = none from hh] | rw [hh]
  refine wpAny_bind (wpAny_pure (wpAny_throw ?_))
  exact hE _ _ ⟨fun b o hb => Heap.get?_push_of_some _ (Heap.get?_push_of_some _ hb), Heap.get?_none_of_le (by simp), _, Heap.get?_push_size _ rfl, Heap.get?_none_of_le (Nat.le_refl _), Heap.get?_push_of_some _ (Heap.get?_push_size _ rfl)⟩
noncomputable def Spent (news : List (Addr × Obj)) (o : Obj) : Prop := (∃ (l : Addr) (ol : Obj) (j : Nat) (vs : Array Value), o = liObj l j ∧ (l, ol) ∈ news ∧ ol.cls = .type "list" ∧ (∃ ep, ol.data = .seq vs ep) ∧ vs[j]? = none) ∨ ∃ i : Nat, o = liDead i
theorem Spent.mono {news news' : List (Addr × Obj)} {o : Obj} (h : Spent news o) (hs : ∀ q ∈ news, q ∈ news') : Spent news' o := by
  rcases h with ⟨l, ol, j, vs, e, hm, r⟩ | r
  · exact .inl ⟨l, ol, j, vs, e, hs _ hm, r⟩
  · exact .inr r
theorem next_stop {Q : Value → Shared → Prop} {o : Obj} (hh : A.handled = none) (F : Fr h₀ L s.heap m) (N : News h₀ L s.heap news) (U : UpdF it o news g) (hsp : Spent news o)
    (h : ∀ h₁ h' e (i : Nat), Fr h₀ L h₁ m → News h₀ L h₁ (g (liDead i)) → Heap.MadeExc h₁ h' e "StopIteration" [] → E (.ref e) { s with heap := h' }) :
    wpAny (model prog w) A (call (.builtin "next") [.ref it]) Q E s := by
  obtain ⟨pre, post, hl, hg, a, b⟩ := U.split
  have hmem : (it, o) ∈ news := by rw [hl]; exact List.mem_append_right _ (.head _)
  have hm := N (it, _) hmem
  rcases hsp with ⟨l, ol, j, vs, rfl, hp, hol, hod, hx⟩ | ⟨i, rfl⟩
  · refine call_next_end hh hm.1 ⟨ol, (N _ hp).1, hol, hod⟩ hx fun h₁ h' e hit' hs hM => ?_
    exact h h₁ h' e j (F.change hs hm.2.1 hm.2.2) (hg _ ▸ (show News h₀ L s.heap (pre ++ (it, _) :: post) from hl ▸ N).setIn a b hs hit') hM
  · exact call_next_dead hh hm.1 fun h' e hM => h _ h' e i F (by rw [hg, ← hl]; exact N) hM
end
section
variable {M : Model} {A : Around} {E : Value → Shared → Prop} {s : Shared} {x y : Array UInt8} {t u : Tok} {Q : Value → Shared → Prop}
theorem is_bytes_ne (ht : t ≠ 0) (hu : u ≠ 0) (htu : t ≠ u) (hxy : x ≠ y) (h : Q (.bool false) s) : wpAny M A (compareOp .Is (.bytes x t) (.bytes y u)) Q E s := by
  show wpAny M A (isSame.created (x == y) t u >>= fun b => pure (Value.bool b)) Q E s
  refine wpAny_bind ?_
  unfold isSame.created
  have e0 : ((t == 0) || (u == 0)) = false := by simp [ht, hu]
  have e1 : (t == u) = false := by simpa using htu
  have e2 : (x == y) = false := by simpa using hxy
  rw [e0, e1, e2]
  exact wpAny_pure (wpAny_pure h)
theorem is_bytes_refl (ht : t ≠ 0) (h : Q (.bool true) s) : wpAny M A (compareOp .Is (.bytes x t) (.bytes x t)) Q E s := by
  show wpAny M A (isSame.created (x == x) t t >>= fun b => pure (Value.bool b)) Q E s
  refine wpAny_bind ?_
  unfold isSame.created
  have e0 : ((t == 0) || (t == 0)) = false := by simp [ht]
  have e1 : (t == t) = true := by simp
  rw [e0, e1]
  exact wpAny_pure (wpAny_pure h)
end

noncomputable def LeaveT (A₀ : Around) (base : Heap) (env : Env) (outer : List Env) (h₀ : Heap) (L : Addr) (m : Str → Option Value) (g : Heap) (R : Result → Shared → Prop) (v : Value) (s' : Shared) : Prop :=
  ∃ g' L' m' news', KtsTurn ((env :: outer).filterMap (·.frame)) g g' ∧ Fr g' L' s'.heap m' ∧ News g' L' s'.heap news' ∧ ∀ h₀', KtsTurn (outer.filterMap (·.frame)) h₀ h₀' → Fr h₀' L s'.heap m → News h₀' L s'.heap news' → Below A₀ base outer h₀' → R (.ok (.ret v)) s'
theorem mem_frames {env : Env} {outer : List Env} {L b : Addr} (hf : env.frame = some L) (hm : b ∈ (env :: outer).filterMap (·.frame)) : b = L ∨ b ∈ outer.filterMap (·.frame) := by
  obtain ⟨e, he, hb⟩ := List.mem_filterMap.mp hm
  rcases List.mem_cons.mp he with rfl | he
  · rw [hf] at hb; exact .inl (Option.some.inj hb).symm
  · exact .inr (List.mem_filterMap.mpr ⟨e, he, hb⟩)
section
variable {prog : Program} {w : World} {A₀ A : Around} {s : Shared} {base h₀ g : Heap} {outer : List Env} {env : Env} {L a : Addr} {m : Str → Option Value} {news : List (Addr × Obj)} {R : Result → Shared → Prop}
theorem leaveT_done (B : Below A₀ base outer h₀) (FG : Fr h₀ L g m) (hf : env.frame = some L) {v : Value} {s' : Shared} (hl : LeaveT A₀ base env outer h₀ L m g R v s') : R (.ok (.ret v)) s' := by
  obtain ⟨g', L', m', news', T', F', N', k⟩ := hl
  have nL₀ : h₀.get? L = none := kts_self FG
  obtain ⟨oL, es, ep, hL, hLd, hLk, hLf⟩ := FG.ns
  obtain ⟨sl, hs⟩ := T'.up hL
  obtain ⟨T₁, S₁⟩ := kts_turn_at (h := s'.heap) (fs := outer.filterMap (·.frame)) (g := h₀)
    (fun b hb => by
      obtain ⟨_, o, ho', _⟩ := B.frames.mem hb
      exact ⟨o, ho'⟩)
    (fun b o e nmem => F'.keep b o (T'.other b o (FG.keep b o e) (fun q => by
      rcases mem_frames hf q with z | z
      · rw [z, nL₀] at e
        cases e
      · exact nmem z)))
    (fun b o e hm => by
      obtain ⟨sl', hs'⟩ := T'.up (FG.keep b o e)
      exact ⟨sl', F'.keep _ _ hs'⟩)
  have B₃ : Below A₀ base outer (ktsHeap s'.heap (outer.filterMap (·.frame)) h₀) := ⟨B.stack, fun b o e => T₁.other b o (B.stays b o e) (fun hm => by
    rw [(B.frames.mem hm).1] at e
    cases e), B.frames.of_keeps fun b o e _ => by
    obtain ⟨sl', hs'⟩ := T₁.up e
    exact ⟨_, hs', rfl⟩⟩
  refine k _ T₁ ⟨⟨_, es, ep, F'.keep _ _ hs, hLd, hLk, hLf⟩, S₁, by rw [T₁.size]; exact FG.above⟩ (fun p hp => ⟨(N' p hp).1, fun q => ?_, ?_⟩) B₃
  · have := (N' p hp).2.2; rw [q, hs] at this; cases this
  · refine T₁.none_ _ ?_
    cases q : h₀.get? p.1 with
    | none => rfl
    | some o =>
      obtain ⟨sl', hs'⟩ := T'.up (FG.keep _ _ q)
      have := (N' p hp).2.2
      rw [hs'] at this
      cases this
end
section
variable {prog : Program} {w : World} {A₀ A : Around} {s : Shared} {base h₀ : Heap} {outer : List Env} {L : Addr} {m : Str → Option Value} {env : Env} {news : List (Addr × Obj)}
  {R : Result → Shared → Prop} {name qual : Str} {params : Arguments} {body : List Stmt} {scope : Scope} {cl : List (Str × Addr)} {dV kV doc pm cdv ct : Value} {an : Option Addr} {fo : Obj} {f : Addr} {args : Args} {binds : List (Str × Value)}
theorem callT_plain (B : Below A₀ base outer h₀) (F : Fr h₀ L s.heap m) (N : News h₀ L s.heap news) (hlim : h₀.NoLimit) (hA : A.frames = some (env :: outer)) (hf : env.frame = some L) (hke : env.scope.kind = .function)
    (ho : s.heap.get? f = some fo) (hd : fo.data = .func (fnX name qual params body scope cl dV kV doc pm an cdv ct)) (hcd : s.heap.CodeRec cdv qual) (hroom : A.depth < recursionLimit)
    (hbind : BindsTo s (fnX name qual params body scope cl dV kV doc pm an cdv ct) args binds) (hloc : ∀ y ∈ binds, scope.names.lookup y.1 = some .local)
    (h : ∀ g L' h₁, Fr h₀ L g m → Fr g L' h₁ (fun y => binds.reverse.lookup y) → News g L' h₁ news → Below A base (env :: outer) g → h₀.StaysIn g → (∀ p ∈ news, p.1 < L') →
      wpAny (model prog w) (A.deeper (envX qual scope L' f cdv cl)) (execs body (envX qual scope L' f cdv cl))
        (fun fl s' => LeaveT A₀ base env outer h₀ L m g R (match fl with | .ret v => v | _ => .none) s')
        (fun e s' => wpAny (model prog w) (A.deeper (envX qual scope L' f cdv cl)) (leaving (envX qual scope L' f cdv cl) e) (fun _ s'' => R (.error e) s'') (fun e' s'' => R (.error e') s'') s')
        { s with heap := h₁, toks := s.toks + binds.length })
    (hcell : ∀ x ∈ scope.names, x.2 ≠ .cell) (hco : scope.isCoroutine = false := by rfl) (hgen : scope.isGenerator = false := by rfl) (hk : scope.kind = .function := by rfl) : codeAny (model prog w) A (.call (.ref f) args) R s := by
  obtain ⟨FG, BG, st, _⟩ := groundX (R := R) B F N hA hf hke
  refine codeAny_call_def (fd := fnX name qual params body scope cl dV kV doc pm an cdv ct) (body := body) (binds := binds) hroom ho hd (hlim.keeps F.keep) hcd rfl hbind hcell hloc (fun h₁ hns hk₁ => ?_) hco hgen hk
  exact wpAny_mono (h _ s.heap.objs.size h₁ FG ⟨hns, fun b o e => hk₁ b o (of_hideAll _ e), Nat.le_of_eq (hideAll_size _ _)⟩
    (fun p hp => ⟨hk₁ _ _ (N p hp).1, Nat.ne_of_lt (Heap.lt_size (N p hp).1), hideAll_none _ (List.mem_map_of_mem hp)⟩) BG st (fun p hp => Heap.lt_size (N p hp).1)) (fun fl s' hl => leaveT_done B FG hf hl) fun _ _ y => y
theorem code_defT {K : Frag} {p : Program} {loose : List Str} {mean : ExcName → Option Value} {mg mb : Str → Option Value} {oc : Value} {od : Option Addr} {osl : Array (Option Value)}
    (B : Below A₀ base outer h₀) (F : Fr h₀ L s.heap m) (X₀ : K.In h₀) (N : News h₀ L s.heap news) (T : Top p loose mean mg mb h₀) (hA : A.frames = some (env :: outer)) (hf : env.frame = some L) (hke : env.scope.kind = .function)
    (ho : K.lookup f = some ⟨oc, od, .func (fnOf name qual params body scope dV kV doc pm an cdv ct), osl⟩) (hcd : codeIn K cdv qual = true) (hroom : A.depth < recursionLimit)
    (hbind : BindsTo s (fnOf name qual params body scope dV kV doc pm an cdv ct) args binds) (hloc : ∀ y ∈ binds, scope.names.lookup y.1 = some .local)
    (h : ∀ g L' h₁, Fr h₀ L g m → Fr g L' h₁ (fun y => binds.reverse.lookup y) → News g L' h₁ news → Below A base (env :: outer) g → K.In g → Top p loose mean mg mb g →
      wpAny (model prog w) (A.deeper (envOf qual scope L' f cdv)) (execs body (envOf qual scope L' f cdv))
        (fun fl s' => LeaveT A₀ base env outer h₀ L m g R (match fl with | .ret v => v | _ => .none) s')
        (fun e s' => wpAny (model prog w) (A.deeper (envOf qual scope L' f cdv)) (leaving (envOf qual scope L' f cdv) e) (fun _ s'' => R (.error e) s'') (fun e' s'' => R (.error e') s'') s')
        { s with heap := h₁, toks := s.toks + binds.length })
    (hco : scope.isCoroutine = false) (hgen : scope.isGenerator = false) (hk : scope.kind = .function)
    (hcell : ∀ x ∈ scope.names, x.2 ≠ .cell) : codeAny (model prog w) A (.call (.ref f) args) R s :=
  callT_plain (cl := []) B F N T.nolimit hA hf hke ((X₀.keeps F.keep) _ _ ho) rfl (codeRec_of (X₀.keeps F.keep) hcd) hroom hbind hloc (fun g L' h₁ FG F' N' B' st _ => h g L' h₁ FG F' N' B' (X₀.keeps st) (T.keeps st)) hcell hco hgen hk
end
section
variable {prog : Program} {w : World} {A₀ : Around} {E : Value → Shared → Prop} {s' : Shared} {base g h : Heap} {outer : List Env} {L a e : Addr} {m : Str → Option Value} {name : Str} {scope : Scope} {cd : Value}
  {b₀ : Stmt} {suite : List Stmt} {pos np : Pos} {rest : List ExceptHandler} {Q : Flow → Shared → Prop} {news : List (Addr × Obj)}
  {p : Program} {loose : List Str} {mean : ExcName → Option Value} {mg mb : Str → Option Value} {x : Str} {X T' : String}
theorem caught_first (K : Below A₀ base outer g) (F : Fr g L h m) (N : News g L h news) (hxm : Heap.MadeExc h s'.heap e X [])
    (T : Top p loose mean mg mb base) {KF : Frag} (XK : KF.In base) (hnone : nsIn KF mainGlobals x = some none) (hv : bootBuiltins x = some (.type T'))
    (hexc : isSubtype (.type T') (.type "BaseException") = pure true) (hnt : isSubtype (.type ((Manifest.find? T').elim "type" fun y => y.metatype)) (.type "tuple") = pure false) (hsub : isSubtype (.type X) (.type T') = pure true)
    (k : ∀ h' g', KtsTurn (outer.filterMap (·.frame)) g g' → Fr g' L h' m → News g' L h' news → Below A₀ base outer g' →
      wpAny (model prog w) ((A₀.deeper (envOf name scope L a cd)).mark (some (.ref e))) (execs (b₀ :: suite) (envOf name scope L a cd)) Q E { s' with heap := h' })
    (hn : x ≠ "__name__")
    (hk : scope.kind = .function) (hx : (envOf name scope L a cd).kindOf x = some .globalImplicit) (hd : (x == ("__debug__" : Str)) = false)
    (hE : PassesOwnAt (model prog w) ((A₀.deeper (envOf name scope L a cd)).mark (some (.ref e))) (A₀.deeper (envOf name scope L a cd)) (envOf name scope L a cd) E) :
    wpAny (model prog w) (A₀.deeper (envOf name scope L a cd)) (noteFrame (.ref e) (envOf name scope L a cd))
      (fun _ s₂ => wpAny (model prog w) (A₀.deeper (envOf name scope L a cd)) (setFlight (.ref e) none) (fun _ s₃ =>
        wpAny (model prog w) (A₀.deeper (envOf name scope L a cd)) (handleBy (.ref e) (envOf name scope L a cd) (.ExceptHandler (some (.Name x np)) none (b₀ :: suite) pos :: rest)) Q E s₃) E s₂) E s' := by
  have K' := K.push (name := name) (scope := scope) (a := a) (cd := cd) F hk
  have hin : ∀ env ∈ (envOf name scope L a cd :: outer), ∀ b, env.frame = some b → b ∈ (envOf name scope L a cd :: outer).filterMap (·.frame) := fun env he b hb => List.mem_filterMap.mpr ⟨env, he, hb⟩
  have st : base.StaysIn (hideAll h ((envOf name scope L a cd :: outer).filterMap (·.frame))) := fun b o q => hideAll_get _ (K'.stays b o q) fun hm => by
    rw [(K'.frames.mem hm).1] at q; cases q
  have sg : ∀ b o, g.get? b = some o → b ∉ outer.filterMap (·.frame) → (hideAll h ((envOf name scope L a cd :: outer).filterMap (·.frame))).get? b = some o := fun b o q nm => hideAll_get _ (F.keep b o q) fun hm => by
    rcases kts_mem hm with z | z
    · rw [z, kts_self F] at q
      cases q
    · exact nm z
  have sh : ∀ b o, h.get? b = some o → b ∉ (envOf name scope L a cd :: outer).filterMap (·.frame) → (hideAll h ((envOf name scope L a cd :: outer).filterMap (·.frame))).get? b = some o := fun b o q nm => hideAll_get _ q nm
  have hl : ∀ q ∈ news, (hideAll h ((envOf name scope L a cd :: outer).filterMap (·.frame))).get? q.1 = some q.2 ∧ g.get? q.1 = none := fun q hq => by
    refine ⟨hideAll_get _ (N q hq).1 fun hm => ?_, (N q hq).2.2⟩
    obtain ⟨env, he, hf⟩ := List.mem_filterMap.mp hm
    rcases List.mem_cons.mp he with rfl | he
    · exact (N q hq).2.1 (Option.some.inj hf).symm
    · obtain ⟨o, ho, _⟩ := (K.frames.mem (List.mem_filterMap.mpr ⟨env, he, hf⟩)).2
      rw [(N q hq).2.2] at ho; cases ho
  obtain ⟨t, he, htn, ht⟩ := hxm.there
  have hen : (hideAll h ((envOf name scope L a cd :: outer).filterMap (·.frame))).get? e = none := by
    cases q : (hideAll h ((envOf name scope L a cd :: outer).filterMap (·.frame))).get? e with
    | none => rfl
    | some o => have := of_hideAll _ q; rw [hxm.new] at this; cases this
  have hL : (hideAll h ((envOf name scope L a cd :: outer).filterMap (·.frame))).get? L = none := hideAll_none _ (hin _ (.head _) L rfl)
  unfold noteFrame
  simp only [show (envOf name scope L a cd).frame = some L from rfl]
  refine wpAny_bind (wpAny_field he rfl (x := .none) rfl ?_)
  rw [if_neg (by decide)]
  refine wpAny_entryW (a0 := .ref t) K'.stack ((funFrames_hide K'.frames hin).of_keeps fun b o hb _ => ⟨o, hxm.keeps b o hb, rfl⟩) rfl he (fun b o hb => hxm.keeps b o (of_hideAll _ hb)) hen rfl (by show 1 < 6; decide) rfl fun h₄ hN => ?_
  obtain ⟨k1, k2, k3, k4⟩ := hN
  have hsm₄ : h.UpToSlots h₄ := (Heap.UpToSlots.of_keeps hxm.keeps).trans k4
  refine wpAny_landsW (base := (hideAll h ((envOf name scope L a cd :: outer).filterMap (·.frame)))) (l := envOf name scope L a cd :: outer) (cls := .type X) (a0 := .ref t) (L := L) ⟨k1, hen, k2, k3⟩ fun h₅ hheld hsm₅' => ?_
  have hsm₅ := hsm₄.trans hsm₅'
  obtain ⟨g₅, T₅, F₅, B₅⟩ := kts_ground K F sh hheld.1 hsm₅
  have T5 := T.keeps B₅.stays
  obtain ⟨ob, hob, hobc⟩ := hheld.there
  refine wpAny_handleBy_builtin (X := X) (T := T') (b := true) hexc hnt hsub (ld_builtin_at F₅ T5.g (mg_none_of (XK.keeps B₅.stays) T5.g hnone) T5.b ((T5.builtins x hn).trans hv) ⟨rfl, ⟨ob, hob, hobc⟩, ?_⟩ hk hx hd)
  refine lands_againW hheld fun h₆ hfl₆ hsm₆ => ?_
  obtain ⟨g₆, T₆, F₆, B₆⟩ := kts_ground K F sh hfl₆.1 (hsm₅.trans hsm₆)
  exact wpAny_passesOwnAt hE (k h₆ g₆ T₆ F₆ (fun q hq => ⟨hfl₆.1 _ _ (hl q hq).1, (fun z => by have := (hl q hq).1; rw [z, hL] at this; cases this), T₆.none_ _ (hl q hq).2⟩) B₆)
end
theorem leaveT_ {A₀ : Around} {base : Heap} {env : Env} {outer : List Env} {h₀ : Heap} {L : Addr} {m : Str → Option Value} {g : Heap} {R : Result → Shared → Prop} {v : Value} {s' : Shared} {g' : Heap} {L' : Addr} {m' : Str → Option Value} {news' : List (Addr × Obj)}
   (T : KtsTurn ((env :: outer).filterMap (·.frame)) g g') (F : Fr g' L' s'.heap m') (N : News g' L' s'.heap news') (k : ∀ h₀', KtsTurn (outer.filterMap (·.frame)) h₀ h₀' → Fr h₀' L s'.heap m → News h₀' L s'.heap news' → Below A₀ base outer h₀' → R (.ok (.ret v)) s') : LeaveT A₀ base env outer h₀ L m g R v s' := ⟨g', L', m', news', T, F, N, k⟩

local macro_rules | `(tactic| k_mem) => `(tactic| assumption)
local macro_rules | `(tactic| k_mem) => `(tactic| first | with_reducible exact List.Mem.head _ | (with_reducible refine List.Mem.tail _ ?_; k_mem) | assumption)
local macro_rules | `(tactic| tb_start) => `(tactic| first | with_reducible exact fun _ h => h | (refine List.forall_mem_cons.mpr ⟨?tba, ?tbb⟩; (case tba => k_mem); (case tbb => tb_start)) | (intro q hq; repeat (first | exact hq | refine List.mem_cons_of_mem _ ?_)))
local macro_rules | `(tactic| k_all) => `(tactic| assumption)
local macro_rules | `(tactic| walk_at "execs cons") => `(tactic| first | (with_reducible refine gt_one ?_; intro tk htk; (try dsimp only at htk)) | (with_reducible refine gt_up (Nat.le_add_right _ _) ?_; intro tk htk; (try dsimp only at htk)))
local macro_rules | `(tactic| walk_at "execs nil") => `(tactic| walk_at "execs cons")
local macro_rules | `(tactic| walk_at "compareOp Is") => `(tactic| ((with_reducible show wpAny _ _ (compareOp CmpOp.Is (Value.bytes _ _) (Value.bytes _ _)) _ _ _); first | (refine is_bytes_refl ?_ ?_; assumption) | (refine is_bytes_ne ?_ ?_ ?_ ?_ ?_; assumption; assumption; assumption; assumption)))
local macro_rules | `(tactic| walk_at "LeaveT") => `(tactic| (k_dflt (refine' leaveT_ ?T ?F ?N ?_; (case F | N => k_asm); (case T => first | assumption | exact KtsTurn.refl)); intro kg kT kF kN kB))

structure Cx (w : World) (p : Program) (loose : List Str) (mean : ExcName → Option Value) (mg mb : Str → Option Value) (A₀ : Around) (base : Heap) (outer : List Env) (h₀ : Heap) (L : Addr) (m : Str → Option Value) (h : Heap) (news : List (Addr × Obj)) : Prop where
  B : Below A₀ base outer h₀
  F : Fr h₀ L h m
  X : (KM w.params).In h₀
  N : News h₀ L h news
  T : Top p loose mean mg mb h₀
  XB : (KM w.params).In base
  TB : Top p loose mean mg mb base
theorem Cx.sub {w : World} {p : Program} {loose : List Str} {mean : ExcName → Option Value} {mg mb : Str → Option Value} {A₀ : Around} {base : Heap} {outer : List Env} {h₀ : Heap} {L : Addr} {m : Str → Option Value} {h : Heap} {news news' : List (Addr × Obj)} (C : Cx w p loose mean mg mb A₀ base outer h₀ L m h news) (hs : ∀ q ∈ news', q ∈ news) : Cx w p loose mean mg mb A₀ base outer h₀ L m h news' :=
  ⟨C.B, C.F, C.X, fun q hq => C.N q (hs q hq), C.T, C.XB, C.TB⟩
/-- one entry an address -/
theorem news_eq {h₀ h : Heap} {L : Addr} {news : List (Addr × Obj)} (N : News h₀ L h news) {a : Addr} {o o' : Obj} (x : (a, o) ∈ news) (y : (a, o') ∈ news) : o = o' := Option.some.inj ((N _ x).1.symm.trans (N _ y).1)
theorem news_ne {h₀ h : Heap} {L : Addr} {news : List (Addr × Obj)} (N : News h₀ L h news) {a b : Addr} {o o' : Obj} (x : (a, o) ∈ news) (y : (b, o') ∈ news) (hc : o ≠ o') : a ≠ b := fun e => hc (news_eq N (e ▸ x) y)
theorem ne_of_allLt {d : Nat} : ∀ {l : List (Addr × Obj)}, AllLt d l → ∀ q ∈ l, q.1 ≠ d
  | [], _, _, hq => nomatch hq
  | p :: r, h, q, hq => by
    rcases List.mem_cons.mp hq with rfl | hq
    · exact Nat.ne_of_lt h.1
    · exact ne_of_allLt h.2 q hq
theorem ne_of_allLt2 {d x : Nat} : ∀ {l : List (Addr × Obj)}, AllLt d l → d < x → ∀ q ∈ l, q.1 ≠ x
  | [], _, _, _, hq => nomatch hq
  | p :: r, h, e, q, hq => by
    rcases List.mem_cons.mp hq with rfl | hq
    · exact Nat.ne_of_lt (Nat.lt_trans h.1 e)
    · exact ne_of_allLt2 h.2 e q hq
/-- the walk stands still here -/
structure Stood (P : Prop) : Prop where
  go : P
noncomputable def stands (n : Nat) : Bool := [119, 126, 156, 328, 440, 464, 471, 478, 485, 492].contains n
theorem Stood.ref {M : Model} {A : Around} {n : Addr} {a : List Value} {b : List (Str × Value)} {Q E : Value → Shared → Prop} {s : Shared} (h : Stood (wpAny M A (call (.ref n) a b) Q E s)) (_ : stands n = true) : wpAny M A (call (.ref n) a b) Q E s := h.go
theorem Stood.len {M : Model} {A : Around} {a : Addr} {Q E : Value → Shared → Prop} {s : Shared} (h : Stood (wpAny M A (call (.builtin "len") [.ref a]) Q E s)) : wpAny M A (call (.builtin "len") [.ref a]) Q E s := h.go
/-- all frame facts out of five -/
theorem Cx.of {w : World} {p : Program} {loose : List Str} {mean : ExcName → Option Value} {mg mb : Str → Option Value} {A₀ : Around} {base : Heap} {outer : List Env} {h₀ : Heap} {L : Addr} {m : Str → Option Value} {h : Heap} {news news' : List (Addr × Obj)}
    (N : News h₀ L h news) (B : Below A₀ base outer h₀) (F : Fr h₀ L h m) (XB : (KM w.params).In base) (TB : Top p loose mean mg mb base) (hs : ∀ q ∈ news', q ∈ news) : Cx w p loose mean mg mb A₀ base outer h₀ L m h news' :=
  ⟨B, F, XB.keeps B.stays, fun q hq => N q (hs q hq), TB.keeps B.stays, XB, TB⟩
/-- the same, with the ledger looked for last -/
theorem Cx.of2 {w : World} {p : Program} {loose : List Str} {mean : ExcName → Option Value} {mg mb : Str → Option Value} {A₀ : Around} {base : Heap} {outer : List Env} {h₀ : Heap} {L : Addr} {m : Str → Option Value} {h : Heap} {news news' : List (Addr × Obj)}
    (B : Below A₀ base outer h₀) (F : Fr h₀ L h m) (N : News h₀ L h news) (XB : (KM w.params).In base) (TB : Top p loose mean mg mb base) (hs : ∀ q ∈ news', q ∈ news) : Cx w p loose mean mg mb A₀ base outer h₀ L m h news' := .of N B F XB TB hs
/-- a def is entered: what settles the rest comes first -/
theorem enter_def {prog : Program} {w : World} {A A₀ : Around} {s : Shared} {K : Frag} {L : Addr} {h₀ base : Heap} {m mg mb : Str → Option Value} {news : List (Addr × Obj)} {p : Program} {loose : List Str} {mean : ExcName → Option Value}
    {env : Env} {outer : List Env} {R : Result → Shared → Prop} {name qual : Str} {params : Arguments} {body : List Stmt} {scope : Scope} {dV kV doc pm cdv ct oc : Value} {an od : Option Addr} {osl : Array (Option Value)} {f : Addr} {args : Args} {binds : List (Str × Value)}
    (hA : A.frames = some (env :: outer)) (hf : env.frame = some L) (hke : env.scope.kind = .function) (B : Below A₀ base outer h₀) (F : Fr h₀ L s.heap m) (X₀ : K.In h₀) (N : News h₀ L s.heap news) (T : Top p loose mean mg mb h₀)
    (ho : K.lookup f = some ⟨oc, od, .func (fnOf name qual params body scope dV kV doc pm an cdv ct), osl⟩) (hcd : codeIn K cdv qual = true) (hroom : A.depth < recursionLimit)
    (hbind : BindsTo s (fnOf name qual params body scope dV kV doc pm an cdv ct) args binds) (hcell : ∀ x ∈ scope.names, x.2 ≠ .cell) (hloc : ∀ y ∈ binds, scope.names.lookup y.1 = some .local)
    (hco : scope.isCoroutine = false) (hgen : scope.isGenerator = false) (hk : scope.kind = .function)
    (h : ∀ g L' h₁, Fr h₀ L g m → Fr g L' h₁ (fun y => binds.reverse.lookup y) → News g L' h₁ news → Below A base (env :: outer) g → K.In g → Top p loose mean mg mb g →
      wpAny (model prog w) (A.deeper (envOf qual scope L' f cdv)) (execs body (envOf qual scope L' f cdv))
        (fun fl s' => LeaveK h₀ L m g R (match fl with | .ret v => v | _ => .none) s')
        (fun e s' => wpAny (model prog w) (A.deeper (envOf qual scope L' f cdv)) (leaving (envOf qual scope L' f cdv) e) (fun _ s'' => R (.error e) s'') (fun e' s'' => R (.error e') s'') s')
        { s with heap := h₁, toks := s.toks + binds.length }) : codeAny (model prog w) A (.call (.ref f) args) R s :=
  code_def B F X₀ N T hA hf hke ho hcd hroom hbind hloc h hco hgen hk hcell
local macro_rules | `(tactic| tb_rel) => `(tactic| (apply Cx.of; k_asm; assumption; k_asm; (iterate 2 assumption); exact fun _ h => h))
local macro_rules | `(tactic| kwd_rel) => `(tactic| (apply Cx.of2; (iterate 5 assumption); tb_start))
local macro_rules | `(tactic| kwd_inv) => `(tactic| first | omega | ((try dsimp only at *); omega))
local macro_rules | `(tactic| k_enter) => `(tactic| k_dflt (apply enter_def; (iterate 2 exact rfl); (first | assumption | exact rfl); (iterate 5 k_asm); (iterate 2 k_is); ktr_room; (first | exact binds_K (by k_in) rfl (by k_is) rfl rfl rfl | exact BindsTo.of_eq rfl); decide; exact locs rfl; (iterate 3 exact rfl); k_whole; intro _ _ _ _ _ _ B' _ _; (try dsimp only); (try k_lift B'); (try k_fold)))
local macro_rules | `(tactic| k_lt $h:ident) => `(tactic| (replace $h := allLt_of $h; (try simp only [AllLt, and_true] at $h:ident); (repeat (obtain ⟨_, $h⟩ := $h)); (try (have := ne_of_allLt $h))))
local macro_rules | `(tactic| k_lt2 $h:ident) => `(tactic| (replace $h := ltN $h; (try (have := ne_of_allLt2 (by assumption) $h))))
local macro_rules | `(tactic| walk_at "eval Call") => `(tactic| ((with_reducible show wpAny _ _ (eval (Expr.Call (Expr.Name _ _) _ [] _) _) _ _ _); first | k_compRoot | k_dflt (refine PyProof.Rows.Call_ ?_)))
section
variable {w : World} {p : Program} {loose : List Str} {mean : ExcName → Option Value} {mg mb : Str → Option Value} {dp un : Nat} {gd : Option (List Code)} {cn : Str} {cs : Scope} {a : Addr} {ccd : Value} {cl : List (Str × Addr)} {outer : List Env} {A₀ : Around} {base h₀ : Heap} {L : Addr} {m : Str → Option Value} {news rest : List (Addr × Obj)} {s : Shared} {Q E : Value → Shared → Prop}
set_option maxRecDepth 100000 in
set_option maxHeartbeats 8000000 in
theorem same_ne {x y : Array UInt8} {tx ty : Tok} (C : Cx w p loose mean mg mb A₀ base outer h₀ L m s.heap news) (hk : cs.kind = .function) (hd : dp + 1 < recursionLimit) (hu : un + 8 < cLine)
  (h1 : tx ≠ 0) (h2 : ty ≠ 0) (h3 : tx ≠ ty) (h4 : x ≠ y)
  (hret : ∀ (h' : Heap) (tk' : Nat), s.toks ≤ tk' → Cx w p loose mean mg mb A₀ base outer h₀ L m h' news → Q (.bool false) { s with heap := h', toks := tk' }) :
  wpAny (model PySem.Challenge.pw_ij0047_01 w) (ktrTop dp un gd cn cs L a ccd cl outer) (call (.ref 126) [.bytes x tx, .bytes y ty]) Q E s := by
  obtain ⟨B, F, X, N, T, XB, TB⟩ := C
  refine wpAny_call ?_
  k_dflt cell_enter
  refine gt_up (Nat.le_add_right s.toks _) (fun tk0 htk0 => ?_)
  k_steps
  all_goals first
    | exact hret _ _ (by kwd_inv) (by kwd_rel)
    | (exfalso; simp_all; done)
    | (exfalso; exact h4 (by simpa using (by assumption)))
set_option maxRecDepth 100000 in
set_option maxHeartbeats 8000000 in
theorem same_eq {x : Array UInt8} {tx : Tok} (C : Cx w p loose mean mg mb A₀ base outer h₀ L m s.heap news) (hk : cs.kind = .function) (hd : dp + 1 < recursionLimit) (hu : un + 8 < cLine)
  (h1 : tx ≠ 0)
  (hret : ∀ (h' : Heap) (tk' : Nat), s.toks ≤ tk' → Cx w p loose mean mg mb A₀ base outer h₀ L m h' news → Q (.bool true) { s with heap := h', toks := tk' }) :
  wpAny (model PySem.Challenge.pw_ij0047_01 w) (ktrTop dp un gd cn cs L a ccd cl outer) (call (.ref 126) [.bytes x tx, .bytes x tx]) Q E s := by
  obtain ⟨B, F, X, N, T, XB, TB⟩ := C
  refine wpAny_call ?_
  k_dflt cell_enter
  refine gt_up (Nat.le_add_right s.toks _) (fun tk0 htk0 => ?_)
  k_steps
  all_goals exact hret _ _ (by kwd_inv) (by kwd_rel)
end
local macro_rules | `(tactic| lcg_sub) => `(tactic| first | assumption | exact rfl | exact ⟨_, rfl⟩ | ktr_room | ktr_units | k_ne | k_updF | exact Spent.mono (by assumption) (by tb_start))
local macro_rules | `(tactic| tab_run $h:ident) => `(tactic| ((have F' := ($h).F); (have N' := ($h).N); clear $h; (try dsimp only at N'); (try k_sweep)))
local macro_rules | `(tactic| row_arm1w $t:term) => `(tactic| (refine Stood.mk ?_; k_dflt (apply $t); tb_rel; repeat first | lcg_sub | k_mem))
local macro_rules | `(tactic| walk_at $n:str) => do
  let s := n.getString
  if ["exec Assign cons ListComp", "eval ListComp", "eval GeneratorExp", "exec For Name Name cons nil", "exec For Name Subscript cons nil", "call builtin:bytes.translate", "compareOp NotEq ref ref", "call builtin:sum", "subscriptTail Call Constant ref int", "subscriptTail Name BinOp bytes int", "call builtin:sorted cons"].contains s then `(tactic| refine Stood.go ?_)
  else if s == "call ref" then `(tactic| refine Stood.ref ?_ (by decide))
  else match [("getMethod str", [`Mine.BB.method_encode]), ("call type:bytes", [`Mine.Stood.bytes]), ("call builtin:len cons nil", [`Mine.Stood.len]), ("subscriptTail", [`Mine.Stood.sub]), ("binaryOp LShift int int", [`Mine.lshift15]), ("call builtin:bytes.hex", [`Mine.BB.call_hex]), ("call builtin:bytes.upper", [`Mine.BB.call_upper4]), ("call builtin:str.encode", [`Mine.BB.call_enc4]), ("call builtin:bytes.maketrans", [`Mine.BM.call_mt]), ("call type:type", [`Mine.type_bytes, `Mine.type_bool, `Mine.type_int]), ("getMethod bytes", [`Mine.BB.method_hex, `Mine.BB.method_upper, `Mine.BB.method_translate])].lookup s with
  | some [f] =>
    let f := Lean.mkIdent f
    if s.startsWith "call b" && s != "call builtin:len cons nil" then `(tactic| (with_reducible refine $f ?_; intro _ htk; dsimp only at htk)) else `(tactic| with_reducible refine $f ?_)
  | some [f, g, h] =>
    let f := Lean.mkIdent f; let g := Lean.mkIdent g; let h := Lean.mkIdent h
    `(tactic| with_reducible first | refine $f ?_ | refine $g ?_ | refine $h ?_)
  | _ => Lean.Macro.throwUnsupported

section
variable {w : World} {p : Program} {loose : List Str} {mean : ExcName → Option Value} {mg mb : Str → Option Value} {dp un : Nat} {gd : Option (List Code)} {cn : Str} {cs : Scope} {a : Addr} {ccd : Value} {cl : List (Str × Addr)} {outer : List Env} {A₀ : Around} {base h₀ : Heap} {L : Addr} {m : Str → Option Value} {news rest : List (Addr × Obj)} {s : Shared} {Q E : Value → Shared → Prop}
set_option maxRecDepth 100000 in
set_option maxHeartbeats 8000000 in
theorem pull_some {gU : Obj → List (Addr × Obj)} {ol : Obj} {it l : Nat} {j : Nat} {vs : Array Value} {v : Value} (C : Cx w p loose mean mg mb A₀ base outer h₀ L m s.heap news) (hk : cs.kind = .function) (hd : dp + 1 < recursionLimit) (hu : un + 8 < cLine)
  (hv : vs[j]? = some v) (U : UpdF it (liObj l j) news gU) (hp : (l, ol) ∈ news) (hol : ol.cls = .type "list") (hod : ∃ ep, ol.data = .seq vs ep)
  (hret : ∀ (h' : Heap) (tk' : Nat) (r : Nat), s.toks ≤ tk' → AllLt r (gU (liObj l (j + 1 : Nat))) → Cx w p loose mean mg mb A₀ base outer h₀ L m h' ((r, (⟨.type "tuple", none, .seq #[.bool true, v], #[]⟩ : Obj)) :: gU (liObj l (j + 1 : Nat))) → Q (.ref r) { s with heap := h', toks := tk' }) :
  wpAny (model PySem.Challenge.pw_ij0047_01 w) (ktrTop dp un gd cn cs L a ccd cl outer) (call (.ref 119) [.ref it]) Q E s := by
  obtain ⟨B, F, X, N, T, XB, TB⟩ := C
  refine wpAny_call ?_
  k_dflt cell_enter
  refine gt_up (Nat.le_add_right s.toks _) (fun tk0 htk0 => ?_)
  k_steps
  refine' next_item ?F ?N ?U ?p ?c ?d ?x ?_
  case F | N => k_asm
  case U | p => assumption
  case c | d | x => assumption
  intro h1 F1 N1
  (try dsimp only at N1)
  k_steps
  all_goals exact hret _ _ _ (by kwd_inv) (by first | assumption | exact allLt_of (by assumption)) (by kwd_rel)
set_option maxRecDepth 100000 in
set_option maxHeartbeats 8000000 in
theorem pull_none {gU : Obj → List (Addr × Obj)} {oi : Obj} {it : Nat} (C : Cx w p loose mean mg mb A₀ base outer h₀ L m s.heap news) (hk : cs.kind = .function) (hd : dp + 1 < recursionLimit) (hu : un + 8 < cLine)
  (U : UpdF it oi news gU) (hsp : Spent news oi)
  (hret : ∀ (g h' : Heap) (tk' : Nat) (r i : Nat), KtsTurn (outer.filterMap (·.frame)) h₀ g → s.toks ≤ tk' → Cx w p loose mean mg mb A₀ base outer g L m h' ((r, (⟨.type "tuple", none, .seq #[.bool false, .none], #[]⟩ : Obj)) :: gU (liDead i)) → Q (.ref r) { s with heap := h', toks := tk' }) :
  wpAny (model PySem.Challenge.pw_ij0047_01 w) (ktrTop dp un gd cn cs L a ccd cl outer) (call (.ref 119) [.ref it]) Q E s := by
  obtain ⟨B, F, X, N, T, XB, TB⟩ := C
  refine wpAny_call ?_
  refine' code_defT ?k1 ?k2 ?k3 ?k4 ?k5 ?kA ?kF ?kK ?k6 ?k7 ?k8 ?k9 ?kB ?_ ?c2 ?c3 ?c4 ?c5
  case kA | kF => exact rfl
  case kK => assumption
  case k1 | k2 | k3 | k4 | k5 => k_asm
  case k6 | k7 => k_is
  case k8 => ktr_room
  case k9 => exact BindsTo.of_eq rfl
  case c5 => decide
  case kB => exact locs rfl
  case c2 | c3 | c4 => exact rfl
  k_whole; intro g9 L9 h9 FG9 F9 N9 B9 X9 T9; (try dsimp only); (try k_lift B9); (try k_fold)
  refine gt_up (Nat.le_add_right s.toks _) (fun tk0 htk0 => ?_)
  k_steps
  refine' next_stop ?hh ?F ?N ?U ?p ?_
  case hh => rfl
  case F | N => k_asm
  case U | p => assumption
  intro h1 h2 e1 i1 F1 N1 hxm
  (try dsimp only at N1)
  k_steps
  refine' caught_first (T' := "StopIteration") ?K ?F ?N hxm ?T ?XK ?hnone PyProof.Rows.Boot.«StopIteration» ?he ?hnt ?hs ?_ ?hn ?hk ?hx ?hd ?hE
  case K | F | N | T | XK => assumption
  case hnone => k_is
  case he | hnt => rw [isSubtype_type]; kernel_rfl
  case hs => exact owsi_facts.sub
  case hn => decide +kernel
  case hk | hx => rfl
  case hd => decide
  case hE => passes_own
  clear hxm
  intro h3 g3 kT3 F3 N3 B3
  have X3 := Frag.In.keeps (by assumption) B3.stays
  have T3 := Top.keeps (by assumption) B3.stays
  k_steps
  all_goals exact hret _ _ _ _ _ (by assumption) (by kwd_inv) (by kwd_rel)
end

section
variable {w : World} {p : Program} {loose : List Str} {mean : ExcName → Option Value} {mg mb : Str → Option Value} {dp un : Nat} {gd : Option (List Code)} {cn : Str} {cs : Scope} {a : Addr} {ccd : Value} {cl : List (Str × Addr)} {outer : List Env} {A₀ : Around} {base h₀ : Heap} {L : Addr} {m : Str → Option Value} {news rest : List (Addr × Obj)} {s : Shared} {Q E : Value → Shared → Prop}
noncomputable abbrev igObj (dk tp : Nat) : Obj := ⟨.ref 310, some dk, .plain, #[some (.ref tp)]⟩
noncomputable abbrev tupObj (vs : Array Value) : Obj := ⟨.type "tuple", none, .seq vs, #[]⟩
noncomputable abbrev cntObj (dx : Nat) (k : Int) (t t1 : Tok) : Obj := ⟨.ref 265, some dx, .plain, #[some (.int k t), some (.bool true), some (.int 1 t1)]⟩
set_option maxRecDepth 100000 in
set_option maxHeartbeats 8000000 in
theorem item_call {x dx tp o : Nat} {t0 : Tok} {k v : Value} (C : Cx w p loose mean mg mb A₀ base outer h₀ L m s.heap news) (hk : cs.kind = .function) (hd : dp + 1 < recursionLimit) (hu : un + 8 < cLine)
  (m1 : (x, igObj dx tp) ∈ news) (m2 : (dx, dictOf [] 0) ∈ news) (m3 : (tp, tupObj #[.int 0 t0]) ∈ news) (m4 : (o, tupObj #[k, v]) ∈ news)
  (hret : ∀ (h' : Heap) (tk' : Nat), s.toks ≤ tk' → Cx w p loose mean mg mb A₀ base outer h₀ L m h' news → Q k { s with heap := h', toks := tk' }) :
  codeAny (model PySem.Challenge.pw_ij0047_01 w) (ktrTop dp un gd cn cs L a ccd cl outer) (.call (.ref 292) ⟨[.ref x, .ref o], []⟩) (fun r s' => match r with | .ok (.ret v) => Q v s' | .ok _ => False | .error e => E e s') s := by
  obtain ⟨B, F, X, N, T, XB, TB⟩ := C
  k_dflt cell_enter
  refine gt_up (Nat.le_add_right s.toks _) (fun tk0 htk0 => ?_)
  k_steps
  rename News _ _ _ _ => N2
  refine ⟨kun_lenT (k := 1) ⟨_, (N2 _ m3).1, rfl, _, rfl⟩ rfl (by decide) ?_⟩
  k_steps
  all_goals exact hret _ _ (by kwd_inv) (by kwd_rel)
set_option maxRecDepth 100000 in
set_option maxHeartbeats 8000000 in
theorem count_next {x dx : Nat} {k : Int} {t1 t2 : Tok} (C : Cx w p loose mean mg mb A₀ base outer h₀ L m s.heap ((x, cntObj dx k t2 t1) :: (dx, dictOf [] 0) :: rest)) (hk : cs.kind = .function) (hd : dp + 1 < recursionLimit) (hu : un + 8 < cLine)
  (hk0 : 0 ≤ k) (hk1 : k < 100) (hxd : dx ≠ x) (hr1 : ∀ q ∈ rest, q.1 ≠ x)
  (hret : ∀ (t : Tok) (h' : Heap) (tk' : Nat), s.toks ≤ tk' → Cx w p loose mean mg mb A₀ base outer h₀ L m h' ((x, cntObj dx (k + 1) t t1) :: (dx, dictOf [] 0) :: rest) → Q (.int k t2) { s with heap := h', toks := tk' }) :
  wpAny (model PySem.Challenge.pw_ij0047_01 w) (ktrTop dp un gd cn cs L a ccd cl outer) (call (.ref 254) [.ref x]) Q E s := by
  obtain ⟨B, F, X, N, T, XB, TB⟩ := C
  refine wpAny_call ?_
  k_dflt cell_enter
  refine gt_up (Nat.le_add_right s.toks _) (fun tk0 htk0 => ?_)
  k_steps
  all_goals exact hret _ _ _ (by kwd_inv) (by kwd_rel)
end
section
variable {prog : Program} {w : World} {A : Around} {E : Value → Shared → Prop} {s : Shared} {K : Frag} {x C L q : Addr} {h₀ : Heap} {m : Str → Option Value} {ox od : Obj} {name : Str} {v : Value} {i : Nat} {pl : Sem Bool}
theorem method_slot {Q : Value × List Value → Shared → Prop} (F : Fr h₀ L s.heap m) (X₀ : K.In h₀) (I : InstAt s.heap x ox C (some od)) (hg : plainGet K C name = true) (hc : isClsIn K C = true)
    (ha : findIn K (.ref C) name = some (some (.ref q))) (hty : typeIn K (.ref q) = some (.type "member_descriptor")) (hn : specialIn K (.ref q) "__get__" = some (some (.builtin "member_descriptor.__get__"))) (ht : takesIn K (.ref q) = some true) (hp : slotIn K q C = some i)
    (hv : (ox.slots[i]?).join = some v) (hh : handedIn v = true) (h : Q (v, []) { s with toks := s.toks + 1 }) : wpAny (model prog w) A (getMethod (.ref x) name pl) Q E s := by
  have X := X₀.keeps F.keep
  have hcan := PySem.F.canon_object_ga
  unfold getMethod specialOf
  refine wpAny_bind (wpAny_bind (I.type.here ((looks_findIn X (plainGet_of hg).1).here ?_)))
  dsimp only
  rw [hcan, if_neg (by decide)]
  refine wpAny_bind (wpAny_bind (I.type.here ((looks_findIn X (plainGet_of hg).2).here ?_)))
  refine wpAny_bind (wpAny_bind (I.type.here ((looks_findIn X ha).here (wpAny_bind ((looks_typeIn X hty).here ?_)))))
  rw [if_pos (by decide +kernel)]
  refine wpAny_bind (get_slot F X₀ I hg hc ha hn ht hp hv hh (wpAny_pure h))
end
local macro_rules | `(tactic| walk_at "getMethod ref") => `(tactic| (k_here; k_dflt (refine method_slot (by k_asm) (by k_asm) (by k_inst) (by k_is) (by k_is) (by k_is) (by k_is) (by k_is) (by k_is) (by k_is) (by k_slotget) (by k_handed) ?_; k_whole)))

theorem raisedS_sub {base G : Heap} {l : List Env} {e : Addr} {cls : Value} {t : Addr} {vs : List Value} {news news' : List (Addr × Obj)} {h : Heap} (R : RaisedS base G l e cls t vs news h) (hs : ∀ q ∈ news', q ∈ news) : RaisedS base G l e cls t vs news' h := by
  obtain ⟨⟨B, h1, h2, h3, h4, h5⟩, h6⟩ := R
  exact ⟨⟨B, h1, h2, fun q hq => h3 q (hs q hq), h4, h5⟩, h6⟩
section
variable {A₀ : Around} {base h₀ g g' : Heap} {outer : List Env} {L : Addr} {m : Str → Option Value} {env : Env}
theorem turn_back (B : Below A₀ base outer h₀) (FG : Fr h₀ L g m) (hf : env.frame = some L) (T' : KtsTurn ((env :: outer).filterMap (·.frame)) g g') :
    ∃ g₀, KtsTurn (outer.filterMap (·.frame)) h₀ g₀ ∧ Fr g₀ L g' m ∧ Below A₀ base outer g₀ := by
  have nL₀ : h₀.get? L = none := kts_self FG
  obtain ⟨oL, es, ep, hL, hLd, hLk, hLf⟩ := FG.ns
  obtain ⟨sl, hs⟩ := T'.up hL
  obtain ⟨T₁, S₁⟩ := kts_turn_at (h := g') (fs := outer.filterMap (·.frame)) (g := h₀)
    (fun b hb => by
      obtain ⟨_, o, ho', _⟩ := B.frames.mem hb
      exact ⟨o, ho'⟩)
    (fun b o e nmem => (T'.other b o (FG.keep b o e) (fun q => by
      rcases mem_frames hf q with z | z
      · rw [z, nL₀] at e
        cases e
      · exact nmem z)))
    (fun b o e hm => by
      obtain ⟨sl', hs'⟩ := T'.up (FG.keep b o e)
      exact ⟨sl', hs'⟩)
  have B₃ : Below A₀ base outer (ktsHeap g' (outer.filterMap (·.frame)) h₀) := ⟨B.stack, fun b o e => T₁.other b o (B.stays b o e) (fun hm => by
    rw [(B.frames.mem hm).1] at e
    cases e), B.frames.of_keeps fun b o e _ => by
    obtain ⟨sl', hs'⟩ := T₁.up e
    exact ⟨_, hs', rfl⟩⟩
  exact ⟨_, T₁, ⟨⟨_, es, ep, hs, hLd, hLk, hLf⟩, S₁, by rw [T₁.size]; exact FG.above⟩, B₃⟩
end
section
variable {M : Model} {A A₀ : Around} {E : Value → Shared → Prop} {s : Shared} {base g G : Heap} {outer : List Env} {L a e t : Addr} {m : Str → Option Value} {name : Str} {scope : Scope} {cd : Value} {cl : List (Str × Addr)} {vs : List Value} {news : List (Addr × Obj)} {X : String}
theorem stopT {Q : Option Value → Shared → Prop} (K : Below A₀ base outer g) (F : Fr g L G m) (R : RaisedS base G (envX name scope L a cd cl :: outer) e (.type X) t vs news s.heap) (hsm : G.UpToSlots s.heap) (hsub : isSubtype (.type X) (.type "StopIteration") = pure true)
    (k : ∀ g', KtsTurn (outer.filterMap (·.frame)) g g' → Fr g' L s.heap m → News g' L s.heap news → Below A₀ base outer g' → Q none s) : OwitStop M A Q E (.ref e) s := by
  obtain ⟨⟨B, hB, hBG, hl, hfl, _⟩, _⟩ := R
  have hL : B.get? L = none := by
    obtain ⟨_, ⟨L', _, hf, hn', _⟩, _⟩ := hfl.2.2.1
    obtain rfl : L = L' := Option.some.inj hf
    exact hn'
  have hf' := flyingW_base hB hfl
  obtain ⟨ob, hob, hobc⟩ := hf'.there
  have hT : s.TypeIs (.ref e) X := (show ∃ o, s.heap.get? e = some o ∧ o.cls = .type X from ⟨ob, hob, hobc⟩)
  obtain ⟨g', T', F', B'⟩ := kts_ground (name := name) (scope := scope) (a := a) (cd := cd) K F hBG hfl.1 hsm
  unfold OwitStop
  refine wpAny_isInstance hT hsub ?_
  show (if true = true then Q none s else E (.ref e) s)
  rw [if_pos rfl]
  exact k g' T' F' (fun q hq => ⟨hfl.1 _ _ (hl q hq).1, (fun z => by have := (hl q hq).1; rw [z, hL] at this; cases this), T'.none_ _ (kts_none F.keep (hl q hq).2.1)⟩) B'
end
section
variable {M : Model} {A : Around} {E : Value → Shared → Prop} {s' : Shared} {base g g₂ h : Heap} {outer : List Env} {L a e t : Addr} {m : Str → Option Value} {name : Str} {scope : Scope} {cd : Value} {Q : Unit → Shared → Prop} {news : List (Addr × Obj)} {cls : Value} {vs : List Value}
theorem leave_raiseS' (hx : Heap.MadeExcOf h s'.heap e cls vs) (F : Fr g L h m) (K : Below A base outer g) (N : News g L h news) (hk : scope.kind = .function)
    (hQ : ∀ h' t, RaisedS base g outer e cls t vs news h' → RaisedK base outer e cls t vs news h' → g.UpToSlots h' → Q () { s' with heap := h' }) :
    wpAny M (A.deeper (envOf name scope L a cd)) (leaving (envOf name scope L a cd) (.ref e)) Q E s' := leave_raiseS K hx F N hQ hk
theorem leave_onS' (R : RaisedS base g₂ (envOf name scope L a cd :: outer) e cls t vs news s'.heap) (F : Fr g L g₂ m) (K : Below A base outer g) (hsm : g₂.UpToSlots s'.heap)
    (hQ : ∀ h', RaisedS base g outer e cls t vs news h' → RaisedK base outer e cls t vs news h' → g.UpToSlots h' → Q () { s' with heap := h' }) :
    wpAny M (A.deeper (envOf name scope L a cd)) (leaving (envOf name scope L a cd) (.ref e)) Q E s' := leave_onS K F R hsm hQ
end
local macro_rules | `(tactic| walk_at "leaving ref") => `(tactic| (k_here; first
  | (apply leave_raiseS'; (first | assumption | exact Heap.MadeExc.of (by assumption)); (iterate 2 assumption); k_asm; exact rfl; k_whole; intro _ _ S' R' U'; (try dsimp only at S' R' U' ⊢))
  | (apply leave_onS'; (iterate 4 assumption); k_whole; intro _ S' R' U'; (try dsimp only at S' R' U' ⊢))))
section
variable {w : World} {p : Program} {loose : List Str} {mean : ExcName → Option Value} {mg mb : Str → Option Value} {dp un : Nat} {gd : Option (List Code)} {cn : Str} {cs : Scope} {a : Addr} {ccd : Value} {cl : List (Str × Addr)} {outer : List Env} {A₀ : Around} {base h₀ : Heap} {L : Addr} {m : Str → Option Value} {news rest : List (Addr × Obj)} {s : Shared} {Q E : Value → Shared → Prop}
noncomputable abbrev gbObj (dG : Nat) (cg ck cv hck hcv htk it kf ser tk : Value) : Obj := ⟨.ref 167, some dG, .plain, #[some cg, some ck, some cv, some hck, some hcv, some htk, some it, some kf, some ser, some tk]⟩
section
local macro_rules | `(tactic| walk_at "call ref") => `(tactic| refine Stood.go ?_)
set_option maxRecDepth 100000 in
set_option maxHeartbeats 8000000 in
theorem step_some {G dG it l kf dk tp o j : Nat} {t0 : Tok} {k v : Value} {cg ck cv hck hcv htk ser tk : Value} {vs : Array Value} {ol : Obj}
  (C : Cx w p loose mean mg mb A₀ base outer h₀ L m s.heap ((G, gbObj dG cg ck cv hck hcv htk (.ref it) (.ref kf) ser tk) :: (dG, dictOf [] 0) :: (it, liObj l j) :: rest)) (hk : cs.kind = .function) (hd : dp + 2 < recursionLimit) (hu : un + 16 < cLine)
  (n1 : G ≠ dG) (n2 : G ≠ it) (n3 : dG ≠ it) (r1 : ∀ q ∈ rest, q.1 ≠ G) (r2 : ∀ q ∈ rest, q.1 ≠ it)
  (m1 : (kf, igObj dk tp) ∈ rest) (m2 : (dk, dictOf [] 0) ∈ rest) (m3 : (tp, tupObj #[.int 0 t0]) ∈ rest) (m4 : (o, tupObj #[k, v]) ∈ rest) (m5 : (l, ol) ∈ rest) (hol : ol.cls = .type "list") (hod : ∃ ep, ol.data = .seq vs ep) (hv : vs[j]? = some (.ref o))
  (hret : ∀ (h' : Heap) (tk' : Nat), s.toks ≤ tk' → Cx w p loose mean mg mb A₀ base outer h₀ L m h' ((G, gbObj dG cg k (.ref o) (.bool true) (.bool true) htk (.ref it) (.ref kf) ser tk) :: (dG, dictOf [] 0) :: (it, liObj l (j + 1 : Nat)) :: rest) → Q .none { s with heap := h', toks := tk' }) :
  wpAny (model PySem.Challenge.pw_ij0047_01 w) (ktrTop dp un gd cn cs L a ccd cl outer) (call (.ref 156) [.ref G]) Q E s := by
  obtain ⟨B, F, X, N, T, XB, TB⟩ := C
  dsimp only [gbObj] at N
  refine wpAny_call ?_
  k_dflt cell_enter
  refine gt_up (Nat.le_add_right s.toks _) (fun tk0 htk0 => ?_)
  k_steps
  row_arm1w pull_some
  intro h1 tk1 p1 htk1 l1 C1
  (try dsimp only at htk1)
  (try simp only [AllLt, and_true] at l1)
  (repeat (obtain ⟨_, l1⟩ := l1))
  (try (have := ne_of_allLt l1))
  tab_run C1
  k_steps
  refine Stood.mk ?_
  kco_here
  refine wpAny_call ?_
  refine kco_code (by k_in) (by k_inst) rfl (by k_is) (by k_is) (by k_is) ?_
  (try dsimp only)
  refine item_call (by tb_rel) (by lcg_sub) (by lcg_sub) (by lcg_sub) (by k_mem) (by k_mem) (by k_mem) (by k_mem) ?_
  intro h2 tk2 htk2 C2
  (try dsimp only at htk2)
  tab_run C2
  k_steps
  all_goals exact hret _ _ (by kwd_inv) (by kwd_rel)
end
set_option maxRecDepth 100000 in
set_option maxHeartbeats 8000000 in
theorem step_none {G dG it kf : Nat} {oi : Obj} {cg ck cv hck hcv htk ser tk : Value}
  (C : Cx w p loose mean mg mb A₀ base outer h₀ L m s.heap ((G, gbObj dG cg ck cv hck hcv htk (.ref it) (.ref kf) ser tk) :: (dG, dictOf [] 0) :: (it, oi) :: rest)) (hk : cs.kind = .function) (hd : dp + 2 < recursionLimit) (hu : un + 16 < cLine)
  (n1 : G ≠ dG) (n2 : G ≠ it) (n3 : dG ≠ it) (r1 : ∀ q ∈ rest, q.1 ≠ G) (r2 : ∀ q ∈ rest, q.1 ≠ it)
  (hsp : Spent rest oi)
  (hexc : ∀ (g G₂ h' : Heap) (tk' e t i : Nat), KtsTurn (outer.filterMap (·.frame)) h₀ g → Fr g L G₂ m → RaisedS base G₂ (envX cn cs L a ccd cl :: outer) e (.type "StopIteration") t [] ((G, gbObj dG cg ck cv hck hcv htk (.ref it) (.ref kf) ser tk) :: (dG, dictOf [] 0) :: (it, liDead i) :: rest) h' → G₂.UpToSlots h' → Below A₀ base outer g → s.toks ≤ tk' → E (.ref e) { s with heap := h', toks := tk' }) :
  wpAny (model PySem.Challenge.pw_ij0047_01 w) (ktrTop dp un gd cn cs L a ccd cl outer) (call (.ref 156) [.ref G]) Q E s := by
  obtain ⟨B, F, X, N, T, XB, TB⟩ := C
  dsimp only [gbObj] at N
  refine wpAny_call ?_
  refine' code_defT ?k1 ?k2 ?k3 ?k4 ?k5 ?kA ?kF ?kK ?k6 ?k7 ?k8 ?k9 ?kB ?_ ?c2 ?c3 ?c4 ?c5
  case kA | kF => exact rfl
  case kK => assumption
  case k1 | k2 | k3 | k4 | k5 => k_asm
  case k6 | k7 => k_is
  case k8 => ktr_room
  case k9 => exact BindsTo.of_eq rfl
  case c5 => decide
  case kB => exact locs rfl
  case c2 | c3 | c4 => exact rfl
  k_whole; intro g9 L9 h9 FG9 F9 N9 B9 X9 T9; (try dsimp only); (try k_lift B9); (try k_fold)
  refine gt_up (Nat.le_add_right s.toks _) (fun tk0 htk0 => ?_)
  k_steps
  row_arm1w pull_none
  intro g1 h1 tk1 p1 i1 kT1 htk1 C1
  (try dsimp only at htk1)
  obtain ⟨B1, F1, X1, N1, T1, _, _⟩ := C1
  (try dsimp only at N1)
  (try k_sweep)
  k_steps
  all_goals (obtain ⟨g, kT, kF, kB⟩ := turn_back B (by assumption) rfl (by assumption))
  all_goals exact hexc g _ _ _ _ _ _ kT kF (raisedS_sub (by assumption) (by tb_start)) (by assumption) kB (by kwd_inv)
end

section
variable {w : World} {p : Program} {loose : List Str} {mean : ExcName → Option Value} {mg mb : Str → Option Value} {dp un : Nat} {gd : Option (List Code)} {cn : Str} {cs : Scope} {a : Addr} {ccd : Value} {cl : List (Str × Addr)} {outer : List Env} {A₀ : Around} {base h₀ : Heap} {L : Addr} {m : Str → Option Value} {news rest : List (Addr × Obj)} {s : Shared} {Q E : Value → Shared → Prop}
noncomputable abbrev grObj (dg : Nat) (num par key : Value) : Obj := ⟨.ref 212, some dg, .plain, #[some num, some par, some key]⟩
set_option maxRecDepth 100000 in
set_option maxHeartbeats 8000000 in
theorem gnext_first {G dG it l kf dk tp o j : Nat} {t0 tn : Tok} {n : Int} {kb : Array UInt8} {kt : Tok} {v : Value} {cg ck cv hcv tk : Value} {vs : Array Value} {ol : Obj}
  (C : Cx w p loose mean mg mb A₀ base outer h₀ L m s.heap ((G, gbObj dG cg ck cv (.bool false) hcv (.bool false) (.ref it) (.ref kf) (.int n tn) tk) :: (dG, dictOf [] 0) :: (it, liObj l j) :: rest)) (hk : cs.kind = .function) (hd : dp + 3 < recursionLimit) (hu : un + 24 < cLine)
  (n1 : G ≠ dG) (n2 : G ≠ it) (n3 : dG ≠ it) (r1 : ∀ q ∈ rest, q.1 ≠ G) (r2 : ∀ q ∈ rest, q.1 ≠ it) (hn0 : 0 ≤ n) (hn1 : n < 100)
  (m1 : (kf, igObj dk tp) ∈ rest) (m2 : (dk, dictOf [] 0) ∈ rest) (m3 : (tp, tupObj #[.int 0 t0]) ∈ rest) (m4 : (o, tupObj #[.bytes kb kt, v]) ∈ rest) (m5 : (l, ol) ∈ rest) (hol : ol.cls = .type "list") (hod : ∃ ep, ol.data = .seq vs ep) (hv : vs[j]? = some (.ref o))
  (hret : ∀ (h' : Heap) (tk' pr gr dg : Nat) (u1 u2 u3 : Tok), s.toks ≤ tk' → Cx w p loose mean mg mb A₀ base outer h₀ L m h' ((pr, tupObj #[.bytes kb kt, .ref gr]) :: (gr, grObj dg (.int (n + 1) u1) (.ref G) (.bytes kb kt)) :: (dg, dictOf [] 0) :: (G, gbObj dG (.int (n + 1) u2) (.bytes kb kt) (.ref o) (.bool true) (.bool true) (.bool true) (.ref it) (.ref kf) (.int (n + 1) u3) (.bytes kb kt)) :: (dG, dictOf [] 0) :: (it, liObj l (j + 1 : Nat)) :: rest) → Q (.ref pr) { s with heap := h', toks := tk' }) :
  wpAny (model PySem.Challenge.pw_ij0047_01 w) (ktrTop dp un gd cn cs L a ccd cl outer) (call (.ref 163) [.ref G]) Q E s := by
  obtain ⟨B, F, X, N, T, XB, TB⟩ := C
  dsimp only [gbObj] at N
  refine wpAny_call ?_
  k_dflt cell_enter
  refine gt_up (Nat.le_add_right s.toks _) (fun tk0 htk0 => ?_)
  k_steps
  row_arm1w step_some
  intro h1 tk1 htk1 C1
  (try dsimp only at htk1)
  (try dsimp only [gbObj] at C1)
  tab_run C1
  k_steps
  all_goals exact hret _ _ _ _ _ _ _ _ (by kwd_inv) (by kwd_rel)
set_option maxRecDepth 100000 in
set_option maxHeartbeats 8000000 in
theorem gnext_later {G dG : Nat} {tn kt ht : Tok} {n : Int} {kb hb : Array UInt8} {cg cv it kf : Value}
  (C : Cx w p loose mean mg mb A₀ base outer h₀ L m s.heap ((G, gbObj dG cg (.bytes kb kt) cv (.bool true) (.bool true) (.bool true) it kf (.int n tn) (.bytes hb ht)) :: (dG, dictOf [] 0) :: rest)) (hk : cs.kind = .function) (hd : dp + 3 < recursionLimit) (hu : un + 24 < cLine)
  (n1 : G ≠ dG) (r1 : ∀ q ∈ rest, q.1 ≠ G) (hn0 : 0 ≤ n) (hn1 : n < 100) (hne : hb ≠ kb) (ht1 : ht ≠ 0) (ht2 : kt ≠ 0) (htn : ht ≠ kt)
  (hret : ∀ (h' : Heap) (tk' pr gr dg : Nat) (u1 u2 u3 : Tok), s.toks ≤ tk' → Cx w p loose mean mg mb A₀ base outer h₀ L m h' ((pr, tupObj #[.bytes kb kt, .ref gr]) :: (gr, grObj dg (.int (n + 1) u1) (.ref G) (.bytes kb kt)) :: (dg, dictOf [] 0) :: (G, gbObj dG (.int (n + 1) u2) (.bytes kb kt) cv (.bool true) (.bool true) (.bool true) it kf (.int (n + 1) u3) (.bytes kb kt)) :: (dG, dictOf [] 0) :: rest) → Q (.ref pr) { s with heap := h', toks := tk' }) :
  wpAny (model PySem.Challenge.pw_ij0047_01 w) (ktrTop dp un gd cn cs L a ccd cl outer) (call (.ref 163) [.ref G]) Q E s := by
  obtain ⟨B, F, X, N, T, XB, TB⟩ := C
  dsimp only [gbObj] at N
  refine wpAny_call ?_
  k_dflt cell_enter
  refine gt_up (Nat.le_add_right s.toks _) (fun tk0 htk0 => ?_)
  k_steps
  row_arm1w same_ne
  intro h2 tk2 htk2 C2
  (try dsimp only at htk2)
  tab_run C2
  k_steps
  all_goals exact hret _ _ _ _ _ _ _ _ (by kwd_inv) (by kwd_rel)
set_option maxRecDepth 100000 in
set_option maxHeartbeats 8000000 in
theorem gnext_end {G dG it kf : Nat} {oi : Obj} {cg ck cv hcv htk ser tk : Value}
  (C : Cx w p loose mean mg mb A₀ base outer h₀ L m s.heap ((G, gbObj dG cg ck cv (.bool false) hcv htk (.ref it) (.ref kf) ser tk) :: (dG, dictOf [] 0) :: (it, oi) :: rest)) (hk : cs.kind = .function) (hd : dp + 3 < recursionLimit) (hu : un + 24 < cLine)
  (n1 : G ≠ dG) (n2 : G ≠ it) (n3 : dG ≠ it) (r1 : ∀ q ∈ rest, q.1 ≠ G) (r2 : ∀ q ∈ rest, q.1 ≠ it) (hsp : Spent rest oi)
  (hexc : ∀ (g G₂ h' : Heap) (tk' e t : Nat), KtsTurn (outer.filterMap (·.frame)) h₀ g → Fr g L G₂ m → RaisedS base G₂ (envX cn cs L a ccd cl :: outer) e (.type "StopIteration") t [] rest h' → G₂.UpToSlots h' → Below A₀ base outer g → s.toks ≤ tk' → E (.ref e) { s with heap := h', toks := tk' }) :
  wpAny (model PySem.Challenge.pw_ij0047_01 w) (ktrTop dp un gd cn cs L a ccd cl outer) (call (.ref 163) [.ref G]) Q E s := by
  obtain ⟨B, F, X, N, T, XB, TB⟩ := C
  dsimp only [gbObj] at N
  refine wpAny_call ?_
  refine' code_defT ?k1 ?k2 ?k3 ?k4 ?k5 ?kA ?kF ?kK ?k6 ?k7 ?k8 ?k9 ?kB ?_ ?c2 ?c3 ?c4 ?c5
  case kA | kF => exact rfl
  case kK => assumption
  case k1 | k2 | k3 | k4 | k5 => k_asm
  case k6 | k7 => k_is
  case k8 => ktr_room
  case k9 => exact BindsTo.of_eq rfl
  case c5 => decide
  case kB => exact locs rfl
  case c2 | c3 | c4 => exact rfl
  k_whole; intro g9 L9 h9 FG9 F9 N9 B9 X9 T9; (try dsimp only); (try k_lift B9); (try k_fold)
  refine gt_up (Nat.le_add_right s.toks _) (fun tk0 htk0 => ?_)
  k_steps
  row_arm1w step_none
  intro g1 G1 h1 tk1 e1 t1 i1 kT1 GF1 R1 U1 B1 htk1
  (try dsimp only at htk1 R1 U1)
  k_steps
  all_goals (obtain ⟨g, kT, kF, kB⟩ := turn_back B (by assumption) rfl (by assumption))
  all_goals exact hexc g _ _ _ _ _ kT kF (raisedS_sub (by assumption) (by tb_start)) (by assumption) kB (by kwd_inv)
end

section
variable {w : World} {p : Program} {loose : List Str} {mean : ExcName → Option Value} {mg mb : Str → Option Value} {dp un : Nat} {gd : Option (List Code)} {cn : Str} {cs : Scope} {a : Addr} {ccd : Value} {cl : List (Str × Addr)} {outer : List Env} {A₀ : Around} {base h₀ : Heap} {L : Addr} {m : Str → Option Value} {news rest : List (Addr × Obj)} {s : Shared} {Q E : Value → Shared → Prop}
set_option maxRecDepth 100000 in
set_option maxHeartbeats 8000000 in
theorem gr_item {G dG gr dg o : Nat} {u1 u2 kt : Tok} {n : Int} {kb : Array UInt8} {it kf ser : Value}
  (C : Cx w p loose mean mg mb A₀ base outer h₀ L m s.heap ((G, gbObj dG (.int n u2) (.bytes kb kt) (.ref o) (.bool true) (.bool true) (.bool true) it kf ser (.bytes kb kt)) :: (dG, dictOf [] 0) :: rest)) (hk : cs.kind = .function) (hd : dp + 3 < recursionLimit) (hu : un + 24 < cLine)
  (n1 : G ≠ dG) (r1 : ∀ q ∈ rest, q.1 ≠ G) (m1 : (gr, grObj dg (.int n u1) (.ref G) (.bytes kb kt)) ∈ rest) (m2 : (dg, dictOf [] 0) ∈ rest) (ht : kt ≠ 0)
  (hret : ∀ (h' : Heap) (tk' : Nat), s.toks ≤ tk' → Cx w p loose mean mg mb A₀ base outer h₀ L m h' ((G, gbObj dG (.int n u2) .none .none (.bool false) (.bool false) (.bool true) it kf ser (.bytes kb kt)) :: (dG, dictOf [] 0) :: rest) → Q (.ref o) { s with heap := h', toks := tk' }) :
  wpAny (model PySem.Challenge.pw_ij0047_01 w) (ktrTop dp un gd cn cs L a ccd cl outer) (call (.ref 208) [.ref gr]) Q E s := by
  obtain ⟨B, F, X, N, T, XB, TB⟩ := C
  dsimp only [gbObj] at N
  refine wpAny_call ?_
  k_dflt cell_enter
  refine gt_up (Nat.le_add_right s.toks _) (fun tk0 htk0 => ?_)
  k_steps
  · exfalso; omega
  row_arm1w same_eq
  intro h1 tk1 htk1 C1
  (try dsimp only at htk1)
  tab_run C1
  k_steps
  all_goals exact hret _ _ (by kwd_inv) (by kwd_rel)
set_option maxRecDepth 100000 in
set_option maxHeartbeats 8000000 in
theorem gr_end_some {G dG gr dg it l kf dk tp o j : Nat} {u1 u2 kt kt2 t0 : Tok} {n : Int} {kb kb2 : Array UInt8} {v ser tk : Value} {vs : Array Value} {ol : Obj}
  (C : Cx w p loose mean mg mb A₀ base outer h₀ L m s.heap ((G, gbObj dG (.int n u2) .none .none (.bool false) (.bool false) (.bool true) (.ref it) (.ref kf) ser tk) :: (dG, dictOf [] 0) :: (it, liObj l j) :: rest)) (hk : cs.kind = .function) (hd : dp + 3 < recursionLimit) (hu : un + 24 < cLine)
  (n1 : G ≠ dG) (n2 : G ≠ it) (n3 : dG ≠ it) (r1 : ∀ q ∈ rest, q.1 ≠ G) (r2 : ∀ q ∈ rest, q.1 ≠ it) (m1 : (gr, grObj dg (.int n u1) (.ref G) (.bytes kb kt)) ∈ rest) (m2 : (dg, dictOf [] 0) ∈ rest)
  (hne : kb ≠ kb2) (ht1 : kt ≠ 0) (ht2 : kt2 ≠ 0) (htn : kt ≠ kt2)
  (m3 : (kf, igObj dk tp) ∈ rest) (m4 : (dk, dictOf [] 0) ∈ rest) (m5 : (tp, tupObj #[.int 0 t0]) ∈ rest) (m6 : (o, tupObj #[.bytes kb2 kt2, v]) ∈ rest) (m7 : (l, ol) ∈ rest) (hol : ol.cls = .type "list") (hod : ∃ ep, ol.data = .seq vs ep) (hv : vs[j]? = some (.ref o))
  (hexc : ∀ (g G₂ h' : Heap) (tk' e t : Nat), KtsTurn (outer.filterMap (·.frame)) h₀ g → Fr g L G₂ m → RaisedS base G₂ (envX cn cs L a ccd cl :: outer) e (.type "StopIteration") t [] ((G, gbObj dG (.int n u2) (.bytes kb2 kt2) (.ref o) (.bool true) (.bool true) (.bool true) (.ref it) (.ref kf) ser tk) :: (dG, dictOf [] 0) :: (it, liObj l (j + 1 : Nat)) :: rest) h' → G₂.UpToSlots h' → Below A₀ base outer g → s.toks ≤ tk' → E (.ref e) { s with heap := h', toks := tk' }) :
  wpAny (model PySem.Challenge.pw_ij0047_01 w) (ktrTop dp un gd cn cs L a ccd cl outer) (call (.ref 208) [.ref gr]) Q E s := by
  obtain ⟨B, F, X, N, T, XB, TB⟩ := C
  dsimp only [gbObj] at N
  refine wpAny_call ?_
  refine' code_defT ?k1 ?k2 ?k3 ?k4 ?k5 ?kA ?kF ?kK ?k6 ?k7 ?k8 ?k9 ?kB ?_ ?c2 ?c3 ?c4 ?c5
  case kA | kF => exact rfl
  case kK => assumption
  case k1 | k2 | k3 | k4 | k5 => k_asm
  case k6 | k7 => k_is
  case k8 => ktr_room
  case k9 => exact BindsTo.of_eq rfl
  case c5 => decide
  case kB => exact locs rfl
  case c2 | c3 | c4 => exact rfl
  k_whole; intro g9 L9 h9 FG9 F9 N9 B9 X9 T9; (try dsimp only); (try k_lift B9); (try k_fold)
  refine gt_up (Nat.le_add_right s.toks _) (fun tk0 htk0 => ?_)
  k_steps
  · exfalso; omega
  row_arm1w step_some
  intro h1 tk1 htk1 C1
  (try dsimp only at htk1)
  (try dsimp only [gbObj] at C1)
  tab_run C1
  k_steps
  row_arm1w same_ne
  intro h2 tk2 htk2 C2
  (try dsimp only at htk2)
  tab_run C2
  k_steps
  all_goals (obtain ⟨g, kT, kF, kB⟩ := turn_back (env := envX cn cs L a ccd cl) B (by assumption) rfl KtsTurn.refl)
  all_goals exact hexc g _ _ _ _ _ kT kF (raisedS_sub (by assumption) (by tb_start)) (by assumption) kB (by kwd_inv)
set_option maxRecDepth 100000 in
set_option maxHeartbeats 8000000 in
theorem gr_end_none {G dG gr dg it kf : Nat} {u1 u2 : Tok} {n : Int} {oi : Obj} {key ser tk : Value}
  (C : Cx w p loose mean mg mb A₀ base outer h₀ L m s.heap ((G, gbObj dG (.int n u2) .none .none (.bool false) (.bool false) (.bool true) (.ref it) (.ref kf) ser tk) :: (dG, dictOf [] 0) :: (it, oi) :: rest)) (hk : cs.kind = .function) (hd : dp + 3 < recursionLimit) (hu : un + 24 < cLine)
  (n1 : G ≠ dG) (n2 : G ≠ it) (n3 : dG ≠ it) (r1 : ∀ q ∈ rest, q.1 ≠ G) (r2 : ∀ q ∈ rest, q.1 ≠ it) (m1 : (gr, grObj dg (.int n u1) (.ref G) key) ∈ rest) (m2 : (dg, dictOf [] 0) ∈ rest) (hsp : Spent rest oi)
  (hexc : ∀ (g G₂ h' : Heap) (tk' e t i : Nat), KtsTurn (outer.filterMap (·.frame)) h₀ g → Fr g L G₂ m → RaisedS base G₂ (envX cn cs L a ccd cl :: outer) e (.type "StopIteration") t [] ((G, gbObj dG (.int n u2) .none .none (.bool false) (.bool false) (.bool true) (.ref it) (.ref kf) ser tk) :: (dG, dictOf [] 0) :: (it, liDead i) :: rest) h' → G₂.UpToSlots h' → Below A₀ base outer g → s.toks ≤ tk' → E (.ref e) { s with heap := h', toks := tk' }) :
  wpAny (model PySem.Challenge.pw_ij0047_01 w) (ktrTop dp un gd cn cs L a ccd cl outer) (call (.ref 208) [.ref gr]) Q E s := by
  obtain ⟨B, F, X, N, T, XB, TB⟩ := C
  dsimp only [gbObj] at N
  refine wpAny_call ?_
  refine' code_defT ?k1 ?k2 ?k3 ?k4 ?k5 ?kA ?kF ?kK ?k6 ?k7 ?k8 ?k9 ?kB ?_ ?c2 ?c3 ?c4 ?c5
  case kA | kF => exact rfl
  case kK => assumption
  case k1 | k2 | k3 | k4 | k5 => k_asm
  case k6 | k7 => k_is
  case k8 => ktr_room
  case k9 => exact BindsTo.of_eq rfl
  case c5 => decide
  case kB => exact locs rfl
  case c2 | c3 | c4 => exact rfl
  k_whole; intro g9 L9 h9 FG9 F9 N9 B9 X9 T9; (try dsimp only); (try k_lift B9); (try k_fold)
  refine gt_up (Nat.le_add_right s.toks _) (fun tk0 htk0 => ?_)
  k_steps
  · exfalso; omega
  row_arm1w step_none
  intro g1 G1 h1 tk1 e1 t1 i1 kT1 GF1 R1 U1 B1 htk1
  (try dsimp only at htk1 R1 U1)
  k_steps
  all_goals (obtain ⟨g, kT, kF, kB⟩ := turn_back (env := envX cn cs L a ccd cl) B (by assumption) rfl (by assumption))
  all_goals exact hexc g _ _ _ _ _ _ kT kF (raisedS_sub (by assumption) (by tb_start)) (by assumption) kB (by kwd_inv)
end

section
variable {w : World} {p : Program} {loose : List Str} {mean : ExcName → Option Value} {mg mb : Str → Option Value} {dp un : Nat} {gd : Option (List Code)} {cn : Str} {cs : Scope} {a : Addr} {ccd : Value} {cl : List (Str × Addr)} {outer : List Env} {A₀ : Around} {base h₀ : Heap} {L : Addr} {m : Str → Option Value} {news rest : List (Addr × Obj)} {s : Shared} {Q E : Value → Shared → Prop}
variable {h h' : Heap} {d : Addr} {ob ob' : Obj}
theorem Cx.setHead (C : Cx w p loose mean mg mb A₀ base outer h₀ L m h ((d, ob) :: rest)) (r : ∀ q ∈ rest, q.1 ≠ d) (hs : Heap.SameBut d h h') (ho : h'.get? d = some ob') : Cx w p loose mean mg mb A₀ base outer h₀ L m h' ((d, ob') :: rest) :=
  have hm := C.N _ (.head _)
  ⟨C.B, C.F.change hs hm.2.1 hm.2.2, C.X, News.setIn (own := []) C.N (fun _ hq => nomatch hq) r hs ho, C.T, C.XB, C.TB⟩
theorem Cx.push (C : Cx w p loose mean mg mb A₀ base outer h₀ L m h news) (o : Obj) (hf : o.isFreed = false := by rfl) : Cx w p loose mean mg mb A₀ base outer h₀ L m (h.push o) ((h.objs.size, o) :: news) :=
  ⟨C.B, C.F.push o, C.X, News.push C.F C.N o hf, C.T, C.XB, C.TB⟩
theorem Cx.lt (C : Cx w p loose mean mg mb A₀ base outer h₀ L m h news) : ∀ q ∈ news, q.1 < h.objs.size := fun q hq => Heap.lt_size (C.N q hq).1
theorem Cx.ne (C : Cx w p loose mean mg mb A₀ base outer h₀ L m h news) : ∀ q ∈ news, q.1 ≠ h.objs.size := fun q hq => Nat.ne_of_lt (C.lt q hq)
set_option maxRecDepth 100000 in
set_option maxHeartbeats 8000000 in
theorem gr_iter {gr : Nat} (C : Cx w p loose mean mg mb A₀ base outer h₀ L m s.heap news) (hk : cs.kind = .function) (hd : dp + 3 < recursionLimit) (hu : un + 24 < cLine)
  (hret : ∀ (h' : Heap) (tk' : Nat), s.toks ≤ tk' → Cx w p loose mean mg mb A₀ base outer h₀ L m h' news → Q (.ref gr) { s with heap := h', toks := tk' }) :
  wpAny (model PySem.Challenge.pw_ij0047_01 w) (ktrTop dp un gd cn cs L a ccd cl outer) (call (.ref 201) [.ref gr]) Q E s := by
  obtain ⟨B, F, X, N, T, XB, TB⟩ := C
  refine wpAny_call ?_
  k_dflt cell_enter
  refine gt_up (Nat.le_add_right s.toks _) (fun tk0 htk0 => ?_)
  k_steps
  all_goals exact hret _ _ (by kwd_inv) (by kwd_rel)
set_option maxRecDepth 100000 in
set_option maxHeartbeats 8000000 in
theorem gb_iter {gr : Nat} (C : Cx w p loose mean mg mb A₀ base outer h₀ L m s.heap news) (hk : cs.kind = .function) (hd : dp + 3 < recursionLimit) (hu : un + 24 < cLine)
  (hret : ∀ (h' : Heap) (tk' : Nat), s.toks ≤ tk' → Cx w p loose mean mg mb A₀ base outer h₀ L m h' news → Q (.ref gr) { s with heap := h', toks := tk' }) :
  wpAny (model PySem.Challenge.pw_ij0047_01 w) (ktrTop dp un gd cn cs L a ccd cl outer) (call (.ref 149) [.ref gr]) Q E s := by
  obtain ⟨B, F, X, N, T, XB, TB⟩ := C
  refine wpAny_call ?_
  k_dflt cell_enter
  refine gt_up (Nat.le_add_right s.toks _) (fun tk0 htk0 => ?_)
  k_steps
  all_goals exact hret _ _ (by kwd_inv) (by kwd_rel)
end
theorem kmFind (P : Params) : findIn (KM P) (.ref 212) "__iter__" = some (some (.ref 201)) ∧ findIn (KM P) (.ref 212) "__next__" = some (some (.ref 208)) ∧ findIn (KM P) (.ref 212) "__len__" = some none ∧ findIn (KM P) (.ref 212) "__length_hint__" = some none ∧ isFn (KM P) (.ref 201) = true ∧ isFn (KM P) (.ref 208) = true
  ∧ findIn (KM P) (.ref 167) "__iter__" = some (some (.ref 149)) ∧ findIn (KM P) (.ref 167) "__next__" = some (some (.ref 163)) ∧ isFn (KM P) (.ref 149) = true ∧ isFn (KM P) (.ref 163) = true
  ∧ findIn (KM P) (.ref 265) "__iter__" = some (some (.ref 247)) ∧ findIn (KM P) (.ref 265) "__next__" = some (some (.ref 254)) ∧ isFn (KM P) (.ref 247) = true ∧ isFn (KM P) (.ref 254) = true := by
  refine ⟨?_, ?_, ?_, ?_, ?_, ?_, ?_, ?_, ?_, ?_, ?_, ?_, ?_, ?_⟩ <;> rfl
section
variable {M : Model} {A : Around} {E : Value → Shared → Prop} {s : Shared} {K : Frag} {x C : Addr} {ox : Obj} {od : Option Obj} {Q : Bool → Shared → Prop}
theorem hint_own (X : K.In s.heap) (I : InstAt s.heap x ox C od) (h1 : findIn K (.ref C) "__len__" = some none) (h2 : findIn K (.ref C) "__length_hint__" = some none) (h : Q true s) : wpAny M A (Builtin.List.listLengthHint (.ref x)) Q E s := by
  unfold Builtin.List.listLengthHint specialOf
  refine wpAny_bind (wpAny_bind (I.type.here ((looks_findIn X h1).here ?_)))
  refine wpAny_ite_split (fun hab => absurd hab (by decide)) (fun _ => ?_)
  refine wpAny_ite_split (fun hab => absurd hab (by decide)) (fun _ => ?_)
  refine wpAny_bind (wpAny_bind (I.type.here ((looks_findIn X h2).here ?_)))
  exact wpAny_pure h
end

section
variable {prog : Program} {w : World} {A : Around} {E : Value → Shared → Prop} {s : Shared}
theorem ext_loop {R : Result → Shared → Prop} {S x : Addr} {res : Value}
    (h : wpAny (model prog w) A.in1 (pyNext (.ref x)) (fun r s' => match r with
      | none => R (.ok (.ret res)) s'
      | some v => ∃ acc c, s'.heap.get? S = some (listOf acc c) ∧ acc.size < sizeLine ∧ ∀ h' c', h'.get? S = some (listOf (acc.push v) c') → Heap.SameBut S s'.heap h' → codeAny (model prog w) A (.builtin "list.extend.loop" ⟨[.ref S, .ref x, res], []⟩) R { s' with heap := h' }) (fun e s' => R (.error e) s') s) :
    codeAny (model prog w) A (.builtin "list.extend.loop" ⟨[.ref S, .ref x, res], []⟩) R s := by
  refine codeAny_builtin PySem.F.entry_extend_loop ?_
  rw [Around.under_plainId PySem.F.plain_extend_loop _]
  show wpAny _ A.in1 (pyNext (.ref x) >>= _) _ _ s
  refine wpAny_bind (wpAny_mono h (fun r s' hr => ?_) fun _ _ z => z)
  cases r with
  | none => exact wpAny_pure hr
  | some v =>
    obtain ⟨acc, c, hS, hz, k⟩ := hr
    show wpAny _ A.in1 (updateSeq S (·.push v) >>= _) _ _ _
    refine wpAny_bind ?_
    refine wpAny_updateSeq hS rfl (wpAny_pure ⟨plainId_quiet PySem.F.plain_extend_loop _, ?_⟩) (by show acc.size ≤ sizeLine; omega)
    exact k _ _ (Heap.get?_update_self _ hS rfl) (Heap.SameBut.update ..)
end
section
variable {w : World} {p : Program} {loose : List Str} {mean : ExcName → Option Value} {mg mb : Str → Option Value} {dp un : Nat} {gd : Option (List Code)} {cn : Str} {cs : Scope} {a : Addr} {ccd : Value} {cl : List (Str × Addr)} {outer : List Env} {A₀ : Around} {base h₀ : Heap} {L : Addr} {m : Str → Option Value} {news rest : List (Addr × Obj)} {s : Shared} {Q E : Value → Shared → Prop}
set_option maxRecDepth 100000 in
theorem list_gr {gr dg : Nat} {num par key : Value} (C : Cx w p loose mean mg mb A₀ base outer h₀ L m s.heap news) (hk : cs.kind = .function) (hd : dp + 3 < recursionLimit) (hu : un + 40 < cLine)
  (m1 : (gr, grObj dg num par key) ∈ news) (m2 : (dg, dictOf [] 0) ∈ news)
  (h : ∀ (S : Nat) (h₁ : Heap) (tk c : Nat), s.toks ≤ tk → (∀ q ∈ news, q.1 < S) → Cx w p loose mean mg mb A₀ base outer h₀ L m h₁ ((S, listOf #[] c) :: news) →
    codeAny (model PySem.Challenge.pw_ij0047_01 w) (ktrTop dp (un + 1) gd cn cs L a ccd cl outer) (.builtin "list.extend.loop" ⟨[.ref S, .ref gr, .none], []⟩) (wants (fun r s₂ => r = .none ∧ Q (.ref S) s₂) E) { s with heap := h₁, toks := tk }) :
  wpAny (model PySem.Challenge.pw_ij0047_01 w) (ktrTop dp un gd cn cs L a ccd cl outer) (call (.type "list") [.ref gr]) Q E s := by
  have lt := C.lt
  have hgl := lt _ m1
  refine callType_codes (Q₁ := fun obj s₁ => obj = .ref s.heap.objs.size ∧ s₁ = { s with heap := s.heap.push { cls := .type "list", data := .seq #[] } }) PySem.F.called_list (PySem.F.typeCall_list_1 _) PySem.F.entry_list_init
    (code_list_new _ ⟨rfl, rfl⟩) fun obj s₁ h₁ => ?_
  obtain ⟨rfl, rfl⟩ := h₁
  have hS : (s.heap.push { cls := .type "list", data := .seq #[] }).get? s.heap.objs.size = some { cls := .type "list", data := .seq #[] } := Heap.get?_push_size _ rfl
  refine ⟨⟨_, hS, rfl⟩, PySem.F.args_list_init_2 _ _, ?_⟩
  have C₁ : Cx w p loose mean mg mb A₀ base outer h₀ L m (s.heap.push { cls := .type "list", data := .seq #[] }) ((s.heap.objs.size, listOf #[] 0) :: news) := C.push _
  generalize hSd : s.heap.objs.size = S at *
  show wpAny _ _ (do let old ← Builtin.List.listItems (.ref S); Builtin.List.listUpdate (.ref S) (fun _ => #[]); letGo old.toList.reverse; Builtin.List.listExtendWith (.ref S) (.ref gr) .none) _ _ _
  refine wpAny_bind ?_
  unfold Builtin.List.listItems
  refine wpAny_bind (wpAny_seqItems hS rfl (wpAny_pure ?_))
  show wpAny _ _ (updateSeq S (fun _ => #[]) >>= fun _ => letGo (#[] : Array Value).toList.reverse >>= fun _ => Builtin.List.listExtendWith (.ref S) (.ref gr) .none) _ _ _
  refine wpAny_bind (wpAny_updateSeq hS rfl ?_)
  refine wpAny_bind (wpAny_letGo ?_)
  have ne : ∀ q ∈ news, q.1 ≠ S := fun q hq => Nat.ne_of_lt (lt q hq)
  have C₂ := C₁.setHead ne (Heap.SameBut.update ..) (Heap.get?_update_self (Obj.mapSeq (fun _ => (#[] : Array Value))) hS rfl)
  generalize (Heap.update (Heap.push s.heap { cls := .type "list", data := .seq #[] }) S (Obj.mapSeq (fun _ => (#[] : Array Value)))) = h₂ at C₂ ⊢
  unfold Builtin.List.listExtendWith
  have hne : S ≠ gr := Nat.ne_of_gt hgl
  have I₂ := InstAt.of_news C₂.N (List.mem_cons_of_mem _ m1) (List.mem_cons_of_mem _ m2)
  refine wpAny_bind (wpAny_typeOf_ref I₂.at_ ?_)
  have h1 : Builtin.List.listSameRef (.ref S) (.ref gr) = false := by simp [Builtin.List.listSameRef, hne]
  rw [h1]
  refine wpAny_ite_split (fun hab => absurd hab (by show ¬ ((false || Value.ref 212 == Value.type "list" || Value.ref 212 == Value.type "tuple") = true); decide)) (fun _ => ?_)
  obtain ⟨f1, f2, f3, f4, f5, f6, _⟩ := kmFind w.params
  refine wpAny_bind (owit_iter C₂.F C.X I₂ f1 f5 (gr_iter (s := { s with heap := h₂ }) C₂ hk hd (by show un + 1 + 1 + 24 < cLine; omega) fun h₃ tk₃ htk C₃ => ?_))
  have I₃ := InstAt.of_news C₃.N (List.mem_cons_of_mem _ m1) (List.mem_cons_of_mem _ m2)
  refine owit_it (s := { s with heap := h₃, toks := tk₃ }) C₃.F C.X I₃ f2 ?_
  refine wpAny_bind (wpAny_holding (hint_own (C.X.keeps C₃.F.keep) I₃ f3 f4 ?_))
  have hS₃ := (C₃.N _ (.head _)).1
  refine wpAny_ite_split (fun _ => ?_) (fun hab => absurd rfl hab)
  refine wpAny_bind (wpAny_rule ?_)
  refine wpAny_bind ?_
  show wpAny _ _ (updateSeq S (·.push .none) >>= fun _ => updateSeq S (·.pop)) _ _ _
  refine wpAny_bind (wpAny_updateSeq hS₃ rfl ?_)
  have hS₄ := Heap.get?_update_self (Obj.mapSeq (·.push Value.none)) hS₃ rfl
  have C₄ := C₃.setHead ne (Heap.SameBut.update ..) hS₄
  refine wpAny_updateSeq (hz := by seq_fits) hS₄ rfl ?_
  have hS₅ := Heap.get?_update_self (Obj.mapSeq (·.pop)) hS₄ rfl
  have C₅ := C₄.setHead ne (Heap.SameBut.update ..) hS₅
  exact wpAny_pure ⟨plainId_quiet PySem.F.plain_extend_loop _, h S _ _ _ htk lt C₅⟩
end

section
variable {w : World} {p : Program} {loose : List Str} {mean : ExcName → Option Value} {mg mb : Str → Option Value} {dp un : Nat} {gd : Option (List Code)} {cn : Str} {cs : Scope} {a : Addr} {ccd : Value} {cl : List (Str × Addr)} {outer : List Env} {A₀ : Around} {base h₀ : Heap} {L : Addr} {m : Str → Option Value} {news rest : List (Addr × Obj)} {s : Shared} {Q E : Value → Shared → Prop}
set_option maxRecDepth 100000 in
theorem list_gr_some {G dG gr dg it l kf dk tp o o2 j : Nat} {u1 u2 kt kt2 t0 : Tok} {n : Int} {kb kb2 : Array UInt8} {v ser : Value} {vs : Array Value} {ol : Obj}
  (C : Cx w p loose mean mg mb A₀ base outer h₀ L m s.heap ((G, gbObj dG (.int n u2) (.bytes kb kt) (.ref o) (.bool true) (.bool true) (.bool true) (.ref it) (.ref kf) ser (.bytes kb kt)) :: (dG, dictOf [] 0) :: (it, liObj l j) :: rest)) (hk : cs.kind = .function) (hd : dp + 3 < recursionLimit) (hu : un + 40 < cLine)
  (n1 : G ≠ dG) (n2 : G ≠ it) (n3 : dG ≠ it) (r1 : ∀ q ∈ rest, q.1 ≠ G) (r2 : ∀ q ∈ rest, q.1 ≠ it) (m1 : (gr, grObj dg (.int n u1) (.ref G) (.bytes kb kt)) ∈ rest) (m2 : (dg, dictOf [] 0) ∈ rest)
  (hne : kb ≠ kb2) (ht1 : kt ≠ 0) (ht2 : kt2 ≠ 0) (htn : kt ≠ kt2)
  (m3 : (kf, igObj dk tp) ∈ rest) (m4 : (dk, dictOf [] 0) ∈ rest) (m5 : (tp, tupObj #[.int 0 t0]) ∈ rest) (m6 : (o2, tupObj #[.bytes kb2 kt2, v]) ∈ rest) (m7 : (l, ol) ∈ rest) (hol : ol.cls = .type "list") (hod : ∃ ep, ol.data = .seq vs ep) (hv : vs[j]? = some (.ref o2))
  (hret : ∀ (g h' : Heap) (tk' S c : Nat), KtsTurn (outer.filterMap (·.frame)) h₀ g → s.toks ≤ tk' → (∀ q ∈ rest, q.1 < S) → G < S → dG < S → it < S → Cx w p loose mean mg mb A₀ base outer g L m h' ((S, listOf #[.ref o] c) :: (G, gbObj dG (.int n u2) (.bytes kb2 kt2) (.ref o2) (.bool true) (.bool true) (.bool true) (.ref it) (.ref kf) ser (.bytes kb kt)) :: (dG, dictOf [] 0) :: (it, liObj l (j + 1 : Nat)) :: rest) → Q (.ref S) { s with heap := h', toks := tk' }) :
  wpAny (model PySem.Challenge.pw_ij0047_01 w) (ktrTop dp un gd cn cs L a ccd cl outer) (call (.type "list") [.ref gr]) Q E s := by
  obtain ⟨f1, f2, f3, f4, f5, f6, _⟩ := kmFind w.params
  refine list_gr C hk hd hu (by k_mem) (by k_mem) fun S h₁ tk c htk lt C₁ => ?_
  have ltG : G < S := lt _ (.head _)
  have ltd : dG < S := lt _ (.tail _ (.head _))
  have lti : it < S := lt _ (.tail _ (.tail _ (.head _)))
  have ltr : ∀ q ∈ rest, q.1 < S := fun q hq => lt q (.tail _ (.tail _ (.tail _ hq)))
  have ner : ∀ q ∈ rest, q.1 ≠ S := fun q hq => Nat.ne_of_lt (ltr q hq)
  refine ext_loop ?_
  have C₁' : Cx w p loose mean mg mb A₀ base outer h₀ L m h₁ ((G, gbObj dG (.int n u2) (.bytes kb kt) (.ref o) (.bool true) (.bool true) (.bool true) (.ref it) (.ref kf) ser (.bytes kb kt)) :: (dG, dictOf [] 0) :: (it, liObj l j) :: (S, listOf #[] c) :: rest) := C₁.sub (by tb_start)
  have I₁ := InstAt.of_news C₁'.N (x := gr) (dx := dg) (C := 212) (.tail _ (.tail _ (.tail _ (.tail _ m1)))) (.tail _ (.tail _ (.tail _ (.tail _ m2))))
  refine owit_next C₁'.F C.X I₁ f2 f6 ?_
  refine gr_item (s := { s with heap := h₁, toks := tk }) C₁' hk hd (by show un + 1 + 1 + 24 < cLine; omega) n1 (List.forall_mem_cons.2 ⟨n2.symm, List.forall_mem_cons.2 ⟨Nat.ne_of_gt ltG, r1⟩⟩) (.tail _ (.tail _ m1)) (.tail _ (.tail _ m2)) ht1 fun h₂ tk₂ htk₂ C₂ => ?_
  have C₂' := C₂.sub (news' := (S, listOf #[] c) :: (G, gbObj dG (.int n u2) .none .none (.bool false) (.bool false) (.bool true) (.ref it) (.ref kf) ser (.bytes kb kt)) :: (dG, dictOf [] 0) :: (it, liObj l j) :: rest) (by tb_start)
  refine ⟨#[], c, (C₂'.N _ (.head _)).1, by decide, fun h₃ c₃ hS₃ sb₃ => ?_⟩
  have C₃ := C₂'.setHead (List.forall_mem_cons.2 ⟨Nat.ne_of_lt ltG, List.forall_mem_cons.2 ⟨Nat.ne_of_lt ltd, List.forall_mem_cons.2 ⟨Nat.ne_of_lt lti, ner⟩⟩⟩) sb₃ hS₃
  refine ext_loop ?_
  have C₃' := C₃.sub (news' := (G, gbObj dG (.int n u2) .none .none (.bool false) (.bool false) (.bool true) (.ref it) (.ref kf) ser (.bytes kb kt)) :: (dG, dictOf [] 0) :: (it, liObj l j) :: (S, listOf (#[].push (.ref o)) c₃) :: rest) (by tb_start)
  have I₃ := InstAt.of_news C₃'.N (x := gr) (dx := dg) (C := 212) (.tail _ (.tail _ (.tail _ (.tail _ m1)))) (.tail _ (.tail _ (.tail _ (.tail _ m2))))
  refine owit_next C₃'.F C.X I₃ f2 f6 ?_
  refine gr_end_some (s := { s with heap := h₃, toks := tk₂ }) C₃' hk hd (by show un + 1 + 1 + 24 < cLine; omega) n1 n2 n3 (List.forall_mem_cons.2 ⟨Nat.ne_of_gt ltG, r1⟩) (List.forall_mem_cons.2 ⟨Nat.ne_of_gt lti, r2⟩) (.tail _ m1) (.tail _ m2) hne ht1 ht2 htn (.tail _ m3) (.tail _ m4) (.tail _ m5) (.tail _ m6) (.tail _ m7) hol hod hv fun g G₂ h' tk' e t KT F' R' U' B' htk' => ?_
  refine stopT (s := { s with heap := h', toks := tk' }) B' F' R' U' owsi_facts.sub fun g' T' F₄ N₄ B₄ => ?_
  have C₄ : Cx w p loose mean mg mb A₀ base outer g' L m h' _ := ⟨B₄, F₄, C.XB.keeps B₄.stays, N₄, C.TB.keeps B₄.stays, C.XB, C.TB⟩
  exact ⟨rfl, hret g' h' tk' S c₃ (KT.trans T') (Nat.le_trans htk (Nat.le_trans htk₂ htk')) ltr ltG ltd lti (C₄.sub (by tb_start))⟩
set_option maxRecDepth 100000 in
theorem list_gr_none {G dG gr dg it kf o : Nat} {oi : Obj} {u1 u2 kt : Tok} {n : Int} {kb : Array UInt8} {ser : Value}
  (C : Cx w p loose mean mg mb A₀ base outer h₀ L m s.heap ((G, gbObj dG (.int n u2) (.bytes kb kt) (.ref o) (.bool true) (.bool true) (.bool true) (.ref it) (.ref kf) ser (.bytes kb kt)) :: (dG, dictOf [] 0) :: (it, oi) :: rest)) (hk : cs.kind = .function) (hd : dp + 3 < recursionLimit) (hu : un + 40 < cLine)
  (n1 : G ≠ dG) (n2 : G ≠ it) (n3 : dG ≠ it) (r1 : ∀ q ∈ rest, q.1 ≠ G) (r2 : ∀ q ∈ rest, q.1 ≠ it) (m1 : (gr, grObj dg (.int n u1) (.ref G) (.bytes kb kt)) ∈ rest) (m2 : (dg, dictOf [] 0) ∈ rest)
  (ht1 : kt ≠ 0) (hsp : Spent rest oi)
  (hret : ∀ (g h' : Heap) (tk' S c i : Nat), KtsTurn (outer.filterMap (·.frame)) h₀ g → s.toks ≤ tk' → (∀ q ∈ rest, q.1 < S) → G < S → dG < S → it < S → Cx w p loose mean mg mb A₀ base outer g L m h' ((S, listOf #[.ref o] c) :: (G, gbObj dG (.int n u2) .none .none (.bool false) (.bool false) (.bool true) (.ref it) (.ref kf) ser (.bytes kb kt)) :: (dG, dictOf [] 0) :: (it, liDead i) :: rest) → Q (.ref S) { s with heap := h', toks := tk' }) :
  wpAny (model PySem.Challenge.pw_ij0047_01 w) (ktrTop dp un gd cn cs L a ccd cl outer) (call (.type "list") [.ref gr]) Q E s := by
  obtain ⟨f1, f2, f3, f4, f5, f6, _⟩ := kmFind w.params
  refine list_gr C hk hd hu (by k_mem) (by k_mem) fun S h₁ tk c htk lt C₁ => ?_
  have ltG : G < S := lt _ (.head _)
  have ltd : dG < S := lt _ (.tail _ (.head _))
  have lti : it < S := lt _ (.tail _ (.tail _ (.head _)))
  have ltr : ∀ q ∈ rest, q.1 < S := fun q hq => lt q (.tail _ (.tail _ (.tail _ hq)))
  have ner : ∀ q ∈ rest, q.1 ≠ S := fun q hq => Nat.ne_of_lt (ltr q hq)
  refine ext_loop ?_
  have C₁' : Cx w p loose mean mg mb A₀ base outer h₀ L m h₁ ((G, gbObj dG (.int n u2) (.bytes kb kt) (.ref o) (.bool true) (.bool true) (.bool true) (.ref it) (.ref kf) ser (.bytes kb kt)) :: (dG, dictOf [] 0) :: (it, oi) :: (S, listOf #[] c) :: rest) := C₁.sub (by tb_start)
  have I₁ := InstAt.of_news C₁'.N (x := gr) (dx := dg) (C := 212) (.tail _ (.tail _ (.tail _ (.tail _ m1)))) (.tail _ (.tail _ (.tail _ (.tail _ m2))))
  refine owit_next C₁'.F C.X I₁ f2 f6 ?_
  refine gr_item (s := { s with heap := h₁, toks := tk }) C₁' hk hd (by show un + 1 + 1 + 24 < cLine; omega) n1 (List.forall_mem_cons.2 ⟨n2.symm, List.forall_mem_cons.2 ⟨Nat.ne_of_gt ltG, r1⟩⟩) (.tail _ (.tail _ m1)) (.tail _ (.tail _ m2)) ht1 fun h₂ tk₂ htk₂ C₂ => ?_
  have C₂' := C₂.sub (news' := (S, listOf #[] c) :: (G, gbObj dG (.int n u2) .none .none (.bool false) (.bool false) (.bool true) (.ref it) (.ref kf) ser (.bytes kb kt)) :: (dG, dictOf [] 0) :: (it, oi) :: rest) (by tb_start)
  refine ⟨#[], c, (C₂'.N _ (.head _)).1, by decide, fun h₃ c₃ hS₃ sb₃ => ?_⟩
  have C₃ := C₂'.setHead (List.forall_mem_cons.2 ⟨Nat.ne_of_lt ltG, List.forall_mem_cons.2 ⟨Nat.ne_of_lt ltd, List.forall_mem_cons.2 ⟨Nat.ne_of_lt lti, ner⟩⟩⟩) sb₃ hS₃
  refine ext_loop ?_
  have C₃' := C₃.sub (news' := (G, gbObj dG (.int n u2) .none .none (.bool false) (.bool false) (.bool true) (.ref it) (.ref kf) ser (.bytes kb kt)) :: (dG, dictOf [] 0) :: (it, oi) :: (S, listOf (#[].push (.ref o)) c₃) :: rest) (by tb_start)
  have I₃ := InstAt.of_news C₃'.N (x := gr) (dx := dg) (C := 212) (.tail _ (.tail _ (.tail _ (.tail _ m1)))) (.tail _ (.tail _ (.tail _ (.tail _ m2))))
  refine owit_next C₃'.F C.X I₃ f2 f6 ?_
  refine gr_end_none (s := { s with heap := h₃, toks := tk₂ }) C₃' hk hd (by show un + 1 + 1 + 24 < cLine; omega) n1 n2 n3 (List.forall_mem_cons.2 ⟨Nat.ne_of_gt ltG, r1⟩) (List.forall_mem_cons.2 ⟨Nat.ne_of_gt lti, r2⟩) (.tail _ m1) (.tail _ m2) (hsp.mono fun q hq => .tail _ hq) fun g G₂ h' tk' e t i KT F' R' U' B' htk' => ?_
  refine stopT (s := { s with heap := h', toks := tk' }) B' F' R' U' owsi_facts.sub fun g' T' F₄ N₄ B₄ => ?_
  have C₄ : Cx w p loose mean mg mb A₀ base outer g' L m h' _ := ⟨B₄, F₄, C.XB.keeps B₄.stays, N₄, C.TB.keeps B₄.stays, C.XB, C.TB⟩
  exact ⟨rfl, hret g' h' tk' S c₃ i (KT.trans T') (Nat.le_trans htk (Nat.le_trans htk₂ htk')) ltr ltG ltd lti (C₄.sub (by tb_start))⟩
end

/-- a sort's tree run with a ready answer -/
noncomputable def runT {α : Type} (lt : Nat → Nat → Bool) : KasT α → α
  | .ret a => a
  | .ask i j k => runT lt (k (lt i j))
theorem runT_bind {α β : Type} (lt : Nat → Nat → Bool) (f : α → KasT β) : ∀ t : KasT α, runT lt (t.bind f) = runT lt (f (runT lt t))
  | .ret _ => rfl
  | .ask i j k => runT_bind lt f (k (lt i j))
section
variable (r : Nat → Nat)
noncomputable abbrev ltR (i j : Nat) : Bool := decide (r i < r j)
/-- the key at a place -/
noncomputable def KR (p : Array Nat) (i : Nat) : Nat := r (p.getD i 0)
noncomputable def UpTo (p : Array Nat) (k : Nat) : Prop := ∀ i j, i < j → j < k → KR r p i < KR r p j
noncomputable def DownTo (p : Array Nat) (k : Nat) : Prop := ∀ i j, i < j → j < k → KR r p j < KR r p i
structure Good (n : Nat) (p : Array Nat) : Prop where
  perm : p.Perm (List.range n).toArray
variable {r}
theorem KR_congr {p q : Array Nat} {i j : Nat} (h : p[i]? = q[j]?) : KR r p i = KR r q j := by
  unfold KR
  rw [Array.getD_eq_getD_getElem?, Array.getD_eq_getD_getElem?, h]
theorem Good.size {n : Nat} {p : Array Nat} (h : Good n p) : p.size = n := by rw [h.perm.size_eq]; simp
theorem Good.ne {n : Nat} {p : Array Nat} (h : Good n p) (hr : ∀ i j, i < n → j < n → r i = r j → i = j) {i j : Nat} (hi : i < n) (hj : j < n) (hij : i ≠ j) : KR r p i ≠ KR r p j := by
  have hs := h.size
  have nd : p.toList.Nodup := by
    have := h.perm.toList
    rw [List.toList_toArray] at this
    exact this.nodup_iff.mpr List.nodup_range
  have mem : ∀ k, k < n → p.getD k 0 < n := fun k hk => by
    have : p[k]'(by omega) ∈ (List.range n).toArray := h.perm.mem_iff.mp (Array.getElem_mem _)
    rw [Array.getD_eq_getD_getElem?, getElem?_pos p k (by omega)]
    simpa using this
  intro e
  have e' := hr _ _ (mem i hi) (mem j hj) e
  rw [Array.getD_eq_getD_getElem?, Array.getD_eq_getD_getElem?, getElem?_pos p i (by omega), getElem?_pos p j (by omega)] at e'
  simp only [Option.getD_some] at e'
  apply hij
  have h1 : p.toList[i]'(by simp; omega) = p.toList[j]'(by simp; omega) := by simpa using e'
  exact (List.getElem_inj nd).mp h1
theorem KR_bubble {p : Array Nat} {src d : Nat} (hs : src < p.size) (hd : d ≤ src) (k : Nat) :
    KR r (bubble p src d) k = if k = src - d then KR r p src else if src - d < k ∧ k ≤ src then KR r p (k - 1) else KR r p k := by
  have e := getElem?_bubble hs d hd k
  by_cases h1 : k = src - d
  · rw [if_pos h1] at e ⊢; exact KR_congr e
  · rw [if_neg h1] at e ⊢
    by_cases h2 : src - d < k ∧ k ≤ src
    · rw [if_pos h2] at e ⊢; exact KR_congr e
    · rw [if_neg h2] at e ⊢; exact KR_congr e
theorem KR_rev {p : Array Nat} {i j : Nat} (hj : j ≤ p.size) (k : Nat) : KR r (kas_rev p i j) k = if i ≤ k ∧ k < j then KR r p (i + j - 1 - k) else KR r p k := by
  have e := getElem?_mirror_all (i := i) hj k
  by_cases h1 : i ≤ k ∧ k < j
  · rw [if_pos h1] at e ⊢; exact KR_congr e
  · rw [if_neg h1] at e ⊢; exact KR_congr e
theorem run_succ {R : Nat → Nat → Prop} (tr : ∀ {a b c}, R a b → R b c → R a c) {n : Nat} (hu : ∀ i j, i < j → j < n → R i j) (h : R (n - 1) n) : ∀ i j, i < j → j < n + 1 → R i j := fun i j hij hj => by
  rcases Nat.lt_or_eq_of_le (Nat.le_of_lt_succ hj) with g | g
  · exact hu i j hij g
  · subst g
    have p1 : j - 1 < j := Nat.sub_lt (Nat.lt_of_le_of_lt (Nat.zero_le i) hij) Nat.one_pos
    rcases Nat.lt_or_eq_of_le (Nat.le_sub_one_of_lt hij) with g | g
    · exact tr (hu i (j - 1) g p1) h
    · rw [g]; exact h
theorem add_swap (n f : Nat) : n + (f + 1) = n + 1 + f := (Nat.succ_add_eq_add_succ n f).symm
theorem lt_add_s (n f : Nat) : n < n + 1 + f := Nat.lt_of_lt_of_le (Nat.lt_succ_self n) (Nat.le_add_right _ _)
theorem asc_run (p : Array Nat) : ∀ (f n : Nat), 1 ≤ n → UpTo r p n → (∀ i j, i < n + f → j < n + f → i ≠ j → KR r p i ≠ KR r p j) →
    n ≤ runT (ltR r) (kas_asc p f n) ∧ runT (ltR r) (kas_asc p f n) ≤ n + f ∧ UpTo r p (runT (ltR r) (kas_asc p f n)) ∧ (runT (ltR r) (kas_asc p f n) < n + f → KR r p (runT (ltR r) (kas_asc p f n)) < KR r p (runT (ltR r) (kas_asc p f n) - 1))
  | 0, n, h1, hu, _ => by
    refine ⟨Nat.le_refl _, Nat.le_refl _, hu, fun h => ?_⟩
    exact absurd h (Nat.lt_irrefl _)
  | f + 1, n, h1, hu, hn => by
    have e : runT (ltR r) (kas_asc p (f + 1) n) = if KR r p n < KR r p (n - 1) then n else runT (ltR r) (kas_asc p f (n + 1)) := by
      show runT (ltR r) (if ltR r (p.getD n 0) (p.getD (n - 1) 0) = true then KasT.ret n else kas_asc p f (n + 1)) = _
      by_cases h : KR r p n < KR r p (n - 1)
      · rw [if_pos h, if_pos (show ltR r (p.getD n 0) (p.getD (n - 1) 0) = true from decide_eq_true h)]; rfl
      · rw [if_neg h, if_neg (show ¬ ltR r (p.getD n 0) (p.getD (n - 1) 0) = true from fun e => h (of_decide_eq_true e))]
    rw [e]
    rw [add_swap n f] at hn ⊢
    have p1 : n - 1 < n := Nat.sub_lt h1 Nat.one_pos
    by_cases h : KR r p n < KR r p (n - 1)
    · rw [if_pos h]
      exact ⟨Nat.le_refl _, Nat.le_of_lt (lt_add_s n f), hu, fun _ => h⟩
    · rw [if_neg h]
      have hne := hn n (n - 1) (lt_add_s n f) (Nat.lt_trans p1 (lt_add_s n f)) (Nat.ne_of_gt p1)
      obtain ⟨a, b, c, d⟩ := asc_run p f (n + 1) (Nat.le_add_left 1 n) (run_succ (R := fun i j => KR r p i < KR r p j) (fun x y => Nat.lt_trans x y) hu (Nat.lt_of_le_of_ne (Nat.le_of_not_lt h) hne.symm)) hn
      exact ⟨Nat.le_of_succ_le a, b, c, d⟩
theorem desc_run (p : Array Nat) : ∀ (f n : Nat), 1 ≤ n → DownTo r p n → (∀ i j, i < n + f → j < n + f → i ≠ j → KR r p i ≠ KR r p j) →
    ∃ m, runT (ltR r) (kas_desc f p n 0) = (p, m, 0) ∧ n ≤ m ∧ m ≤ n + f ∧ DownTo r p m
  | 0, n, h1, hu, _ => ⟨n, rfl, Nat.le_refl _, Nat.le_refl _, hu⟩
  | f + 1, n, h1, hu, hn => by
    have p1 : n - 1 < n := Nat.sub_lt h1 Nat.one_pos
    rw [add_swap n f] at hn ⊢
    have hne := hn n (n - 1) (lt_add_s n f) (Nat.lt_trans p1 (lt_add_s n f)) (Nat.ne_of_gt p1)
    by_cases h : KR r p n < KR r p (n - 1)
    · have e : runT (ltR r) (kas_desc (f + 1) p n 0) = runT (ltR r) (kas_desc f p (n + 1) 0) := by
        show runT (ltR r) (if ltR r (p.getD n 0) (p.getD (n - 1) 0) = true then _ else _) = _
        rw [if_pos (show ltR r (p.getD n 0) (p.getD (n - 1) 0) = true from decide_eq_true h), if_neg (by omega)]
      obtain ⟨m, a, b, c, d⟩ := desc_run p f (n + 1) (Nat.le_add_left 1 n) (run_succ (R := fun i j => KR r p j < KR r p i) (fun x y => Nat.lt_trans y x) hu h) hn
      exact ⟨m, e.trans a, Nat.le_of_succ_le b, c, d⟩
    · have e : runT (ltR r) (kas_desc (f + 1) p n 0) = (p, n, 0) := by
        show runT (ltR r) (if ltR r (p.getD n 0) (p.getD (n - 1) 0) = true then _ else _) = _
        rw [if_neg (show ¬ ltR r (p.getD n 0) (p.getD (n - 1) 0) = true from fun e => h (of_decide_eq_true e))]
        show runT (ltR r) (if ltR r (p.getD (n - 1) 0) (p.getD n 0) = true then _ else _) = _
        have : KR r p (n - 1) < KR r p n := Nat.lt_of_le_of_ne (Nat.le_of_not_lt h) hne.symm
        rw [if_pos (show ltR r (p.getD (n - 1) 0) (p.getD n 0) = true from decide_eq_true this)]
        rfl
      exact ⟨n, e, Nat.le_refl _, Nat.le_of_lt (lt_add_s n f), hu⟩
theorem halves {l t f : Nat} (h : l < t) (h3 : t - l ≤ f + 1) : l ≤ (l + t) / 2 ∧ (l + t) / 2 < t ∧ (l + t) / 2 - l ≤ f ∧ t - ((l + t) / 2 + 1) ≤ f := by
  have a : l ≤ (l + t) / 2 := (Nat.le_div_iff_mul_le (by decide)).2 (by rw [Nat.mul_two]; exact Nat.add_le_add_left (Nat.le_of_lt h) l)
  have b : (l + t) / 2 < t := Nat.div_lt_of_lt_mul (by rw [Nat.two_mul]; exact Nat.add_lt_add_right h t)
  have c : t ≤ f + l + 1 := by rw [Nat.add_right_comm]; exact Nat.sub_le_iff_le_add.1 h3
  exact ⟨a, b, Nat.sub_le_iff_le_add.2 (Nat.le_of_lt_succ (Nat.lt_of_lt_of_le b c)), Nat.sub_le_iff_le_add.2 (Nat.le_trans c (Nat.add_le_add_left (Nat.succ_le_succ a) f))⟩
theorem place_run (p : Array Nat) (k : Nat) (hmono : ∀ i j, i ≤ j → j < k → KR r p i ≤ KR r p j) : ∀ (f l t : Nat), l ≤ t → t ≤ k → t - l ≤ f → (∀ i, i < l → KR r p i < KR r p k) → (∀ i, t ≤ i → i < k → KR r p k < KR r p i) → (∀ i, i < k → KR r p i ≠ KR r p k) →
    ∃ m, runT (ltR r) (kas_place p k f l t) = m ∧ m ≤ k ∧ (∀ i, i < m → KR r p i < KR r p k) ∧ (∀ i, m ≤ i → i < k → KR r p k < KR r p i)
  | 0, l, t, h1, h2, h3, h4, h5, _ => ⟨l, rfl, Nat.le_trans h1 h2, h4, fun i a b => h5 i (Nat.le_trans (Nat.le_of_sub_eq_zero (Nat.le_zero.1 h3)) a) b⟩
  | f + 1, l, t, h1, h2, h3, h4, h5, hne => by
    show ∃ m, runT (ltR r) (if l ≥ t then .ret l else .ask (p.getD k 0) (p.getD ((l + t) / 2) 0) fun c => if c = true then kas_place p k f l ((l + t) / 2) else kas_place p k f ((l + t) / 2 + 1) t) = m ∧ _
    by_cases hlt : l ≥ t
    · rw [if_pos hlt]
      exact ⟨l, rfl, Nat.le_trans h1 h2, h4, fun i a b => h5 i (Nat.le_trans hlt a) b⟩
    · rw [if_neg hlt]
      show ∃ m, runT (ltR r) (if ltR r (p.getD k 0) (p.getD ((l + t) / 2) 0) = true then _ else _) = m ∧ _
      obtain ⟨q1, q2, q3, q4⟩ := halves (Nat.lt_of_not_le hlt) h3
      have hk : (l + t) / 2 < k := Nat.lt_of_lt_of_le q2 h2
      have hne' := hne _ hk
      by_cases hc : KR r p k < KR r p ((l + t) / 2)
      · rw [if_pos (show ltR r (p.getD k 0) (p.getD ((l + t) / 2) 0) = true from decide_eq_true hc)]
        refine place_run p k hmono f l ((l + t) / 2) q1 (Nat.le_of_lt hk) q3 h4 (fun i a b => ?_) hne
        by_cases q : t ≤ i
        · exact h5 i q b
        · exact Nat.lt_of_lt_of_le hc (hmono _ _ a b)
      · rw [if_neg (show ¬ ltR r (p.getD k 0) (p.getD ((l + t) / 2) 0) = true from fun e => hc (of_decide_eq_true e))]
        refine place_run p k hmono f ((l + t) / 2 + 1) t q2 h2 q4 (fun i a => ?_) h5 hne
        exact Nat.lt_of_le_of_lt (hmono _ _ (Nat.le_of_lt_succ a) hk) (Nat.lt_of_le_of_ne (Nat.le_of_not_lt hc) hne')
theorem bubble_good {n : Nat} {p : Array Nat} (h : Good n p) (src d : Nat) : Good n (bubble p src d) := ⟨(bubble_perm p src d).trans h.perm⟩
theorem rev_good {n : Nat} {p : Array Nat} (h : Good n p) (i j : Nat) : Good n (kas_rev p i j) := ⟨(mirror_perm p i j _).trans h.perm⟩
theorem bin_run {n : Nat} (hr : ∀ i j, i < n → j < n → r i = r j → i = j) : ∀ (f : Nat) (p : Array Nat) (k : Nat), k + f = n → Good n p → UpTo r p k → Good n (runT (ltR r) (kas_bin f p k)) ∧ UpTo r (runT (ltR r) (kas_bin f p k)) n
  | 0, p, k, hk, hg, hu => by
    obtain rfl : k = n := hk
    exact ⟨hg, hu⟩
  | f + 1, p, k, hk, hg, hu => by
    show Good n (runT (ltR r) ((kas_place p k k 0 k).bind fun l => kas_bin f (bubble p k (k - l)) (k + 1))) ∧ UpTo r (runT (ltR r) ((kas_place p k k 0 k).bind fun l => kas_bin f (bubble p k (k - l)) (k + 1))) n
    rw [runT_bind]
    have hmono : ∀ i j, i ≤ j → j < k → KR r p i ≤ KR r p j := fun i j a b => by
      by_cases q : i = j
      · subst q; exact Nat.le_refl _
      · exact Nat.le_of_lt (hu i j (Nat.lt_of_le_of_ne a q) b)
    have hkn : k < n := hk ▸ Nat.lt_add_of_pos_right (Nat.succ_pos f)
    obtain ⟨m, e, a, b, c⟩ := place_run (r := r) p k hmono k 0 k (Nat.zero_le k) (Nat.le_refl k) (Nat.le_refl k) (fun i hi => absurd hi (Nat.not_lt_zero i)) (fun i h1 h2 => absurd h2 (Nat.not_lt.2 h1)) (fun i hi => hg.ne hr (Nat.lt_trans hi hkn) hkn (Nat.ne_of_lt hi))
    rw [e]
    refine bin_run hr f _ (k + 1) ((add_swap k f).symm.trans hk) (bubble_good hg _ _) fun i j hij hj => ?_
    have hs := hg.size
    have hkp : k < p.size := hs ▸ hkn
    rw [KR_bubble hkp (Nat.sub_le k m), KR_bubble hkp (Nat.sub_le k m), Nat.sub_sub_self a]
    have hjk := Nat.le_of_lt_succ hj
    have pj : j - 1 < k := Nat.lt_of_lt_of_le (Nat.sub_lt (Nat.lt_of_le_of_lt (Nat.zero_le i) hij) Nat.one_pos) hjk
    rcases Nat.lt_trichotomy i m with hi | hi | hi
    · rw [if_neg (Nat.ne_of_lt hi), if_neg (fun q => Nat.lt_asymm hi q.1)]
      rcases Nat.lt_trichotomy j m with g | g | g
      · rw [if_neg (Nat.ne_of_lt g), if_neg (fun q => Nat.lt_asymm g q.1)]; exact hu i j hij (Nat.lt_of_lt_of_le g a)
      · rw [if_pos g]; exact b i hi
      · rw [if_neg (Nat.ne_of_gt g), if_pos ⟨g, hjk⟩]; exact hu i (j - 1) (Nat.lt_of_lt_of_le hi (Nat.le_sub_one_of_lt g)) pj
    · subst hi
      rw [if_pos rfl, if_neg (Nat.ne_of_gt hij), if_pos ⟨hij, hjk⟩]; exact c (j - 1) (Nat.le_sub_one_of_lt hij) pj
    · have g := Nat.lt_trans hi hij
      rw [if_neg (Nat.ne_of_gt hi), if_pos ⟨hi, Nat.le_trans (Nat.le_of_lt hij) hjk⟩, if_neg (Nat.ne_of_gt g), if_pos ⟨g, hjk⟩]
      exact hu (i - 1) (j - 1) (Nat.sub_lt_sub_right (Nat.lt_of_le_of_lt (Nat.zero_le m) hi) hij) pj
theorem no_pair {P : Prop} {i j : Nat} (h1 : i < j) (h2 : j < 1) : P := absurd (Nat.lt_of_lt_of_le h1 (Nat.le_of_lt_succ h2)) (Nat.not_lt_zero i)
theorem count_run {n : Nat} (hr : ∀ i j, i < n → j < n → r i = r j → i = j) (hn : 1 ≤ n) {p : Array Nat} (hg : Good n p) :
    ∃ m p', runT (ltR r) (kas_count n p) = (m, p') ∧ m ≤ n ∧ 1 ≤ m ∧ Good n p' ∧ UpTo r p' m := by
  have u1 : 1 + (n - 1) = n := Nat.add_sub_cancel' hn
  obtain ⟨a, b, c, d⟩ := asc_run (r := r) p (n - 1) 1 (Nat.le_refl _) (fun i j h1 h2 => no_pair h1 h2) fun i j hi hj hij => hg.ne hr (u1 ▸ hi) (u1 ▸ hj) hij
  rw [u1] at b d
  unfold kas_count
  rw [runT_bind]
  generalize runT (ltR r) (kas_asc p (n - 1) 1) = m at *
  by_cases hm : m = n
  · rw [if_pos (by simpa using hm)]
    exact ⟨m, p, rfl, b, a, hg, c⟩
  · rw [if_neg (by simpa using hm)]
    by_cases h1 : m > 1
    · rw [if_pos h1]
      show ∃ m_1 p', runT (ltR r) (if ltR r (p.getD 0 0) (p.getD (m - 1) 0) = true then .ret (m, p) else kas_descPart m n (kas_rev p 0 m)) = (m_1, p') ∧ _
      have : KR r p 0 < KR r p (m - 1) := c 0 (m - 1) (Nat.sub_pos_of_lt h1) (Nat.sub_lt a Nat.one_pos)
      rw [if_pos (show ltR r (p.getD 0 0) (p.getD (m - 1) 0) = true from decide_eq_true this)]
      exact ⟨m, p, rfl, b, a, hg, c⟩
    · rw [if_neg h1]
      obtain rfl : m = 1 := Nat.le_antisymm (Nat.le_of_not_lt h1) a
      have h1n : 1 < n := Nat.lt_of_le_of_ne b hm
      have u2 : 2 + (n - 2) = n := Nat.add_sub_cancel' h1n
      obtain ⟨m, e, e1, e2, e3⟩ := desc_run (r := r) p (n - 2) 2 (by decide) (run_succ (n := 1) (R := fun i j => KR r p j < KR r p i) (fun x y => Nat.lt_trans y x) (fun i j h1 h2 => no_pair h1 h2) (d h1n)) (fun i j hi hj hij => hg.ne hr (u2 ▸ hi) (u2 ▸ hj) hij)
      rw [u2] at e2
      have hs := hg.size
      have u3 : m + (n - m) = n := Nat.add_sub_cancel' e2
      have ms : m ≤ p.size := hs ▸ e2
      unfold kas_descPart
      rw [show n - (1 + 1) = n - 2 from rfl, show (1 : Nat) + 1 = 2 from rfl, runT_bind, e]
      dsimp only
      rw [if_neg (by omega)]
      unfold kas_tail3
      rw [runT_bind]
      have hg' := rev_good hg 0 m
      have hup : UpTo r (kas_rev p 0 m) m := fun i j hij hj => by
        rw [KR_rev ms, KR_rev ms, if_pos ⟨Nat.zero_le _, Nat.lt_trans hij hj⟩, if_pos ⟨Nat.zero_le _, hj⟩]
        clear e e1 e2 hs u1 u2 u3 a b hn h1n
        exact e3 _ _ (by omega) (by omega)
      obtain ⟨a', b', c', _⟩ := asc_run (r := r) (kas_rev p 0 m) (n - m) m (Nat.le_trans (by decide) e1) hup (fun i j hi hj hij => hg'.ne hr (u3 ▸ hi) (u3 ▸ hj) hij)
      exact ⟨_, _, rfl, Nat.le_trans b' (Nat.le_of_eq u3), Nat.le_trans (Nat.le_trans (by decide) e1) a', hg', c'⟩
theorem sort_run {n : Nat} (hr : ∀ i j, i < n → j < n → r i = r j → i = j) (hn : 1 ≤ n) : Good n (runT (ltR r) (kas_sort n)) ∧ UpTo r (runT (ltR r) (kas_sort n)) n := by
  have hg : Good n (List.toArray (List.range n)) := ⟨.refl _⟩
  obtain ⟨m, p', e, h1, h2, h3, h4⟩ := count_run hr hn hg
  unfold kas_sort
  rw [runT_bind, e]
  dsimp only
  by_cases hm : m < n
  · rw [if_pos hm]
    have : max m 1 = m := Nat.max_eq_left h2
    rw [this]
    exact bin_run hr _ p' m (Nat.add_sub_cancel' (Nat.le_of_lt hm)) h3 h4
  · rw [if_neg hm]
    obtain rfl : m = n := Nat.le_antisymm h1 (Nat.le_of_not_lt hm)
    exact ⟨h3, h4⟩
end

section
variable {w : World} {p : Program} {loose : List Str} {mean : ExcName → Option Value} {mg mb : Str → Option Value} {dp un : Nat} {gd : Option (List Code)} {cn : Str} {cs : Scope} {a : Addr} {ccd : Value} {cl : List (Str × Addr)} {outer : List Env} {A₀ : Around} {base h₀ : Heap} {L : Addr} {m : Str → Option Value} {news rest : List (Addr × Obj)} {s : Shared} {Q E : Value → Shared → Prop}
set_option maxRecDepth 100000 in
set_option maxHeartbeats 8000000 in
theorem count_iter {c : Nat} (C : Cx w p loose mean mg mb A₀ base outer h₀ L m s.heap news) (hk : cs.kind = .function) (hd : dp + 3 < recursionLimit) (hu : un + 24 < cLine)
  (hret : ∀ (h' : Heap) (tk' : Nat), s.toks ≤ tk' → Cx w p loose mean mg mb A₀ base outer h₀ L m h' news → Q (.ref c) { s with heap := h', toks := tk' }) :
  wpAny (model PySem.Challenge.pw_ij0047_01 w) (ktrTop dp un gd cn cs L a ccd cl outer) (call (.ref 247) [.ref c]) Q E s := by
  obtain ⟨B, F, X, N, T, XB, TB⟩ := C
  refine wpAny_call ?_
  k_dflt cell_enter
  refine gt_up (Nat.le_add_right s.toks _) (fun tk0 htk0 => ?_)
  k_steps
  all_goals exact hret _ _ (by kwd_inv) (by kwd_rel)
noncomputable abbrev zipObj (f0 f1 : Value) (TI TO : Nat) : Obj := { cls := .type "zip", dict := none, data := .fields #[f0, f1, .bool false, .ref TI, .ref TO], slots := #[] }
set_option maxRecDepth 100000 in
set_option maxHeartbeats 8000000 in
theorem zip_new {l c dx : Nat} {ol : Obj} {vs : Array Value} {k : Int} {t t1 : Tok} (C : Cx w p loose mean mg mb A₀ base outer h₀ L m s.heap news) (hk : cs.kind = .function) (hd : dp + 3 < recursionLimit) (hu : un + 40 < cLine)
  (m1 : (l, ol) ∈ news) (hol : ol.cls = .type "list") (hod : ∃ ep, ol.data = .seq vs ep) (m2 : (c, cntObj dx k t t1) ∈ news) (m3 : (dx, dictOf [] 0) ∈ news)
  (hret : ∀ (h' : Heap) (tk' i1 TI TO z : Nat), s.toks ≤ tk' → (∀ q ∈ news, q.1 < i1) → i1 < TI → TI < TO → TO < z → Cx w p loose mean mg mb A₀ base outer h₀ L m h' ((z, zipObj .none (.bool false) TI TO) :: (TO, tupObj #[.none, .none]) :: (TI, tupObj #[.ref i1, .ref c]) :: (i1, liObj l (0 : Nat)) :: news) → Q (.ref z) { s with heap := h', toks := tk' }) :
  wpAny (model PySem.Challenge.pw_ij0047_01 w) (ktrTop dp un gd cn cs L a ccd cl outer) (call (.type "zip") [.ref l, .ref c]) Q E s := by
  have hsub := PySem.sub_zip
  refine callType_codes (Q₁ := fun obj s₁ => s₁.TypeIs obj "zip" ∧ Q obj s₁) PySem.F.called_zip (PySem.F.typeCall_zip_2 _ _) PySem.F.entry_object_init ?_ fun obj s₁ h₁ => ⟨h₁.1, PySem.F.args_object_init_3 obj _ _, ?_⟩
  · refine codeAny_call_builtin (by decide +kernel) PySem.F.entry_zip_new (wpAny_of_eq (PySem.F.newCall_zip_2 _ _) ?_)
    unfold Builtin.«zip.__new__»
    obtain ⟨hp, g, d, tk, os⟩ := s
    have hL : Heap.IsList (Shared.heap ⟨hp, g, d, tk, os⟩) l vs := ⟨ol, (C.N _ m1).1, hol, hod⟩
    refine wpAny_bind ?_
    unfold Builtin.SmallTypes.newClass
    repeat (first | rw [hsub] | (refine wpAny_pyIter_list hL ?_) | ((fail_if_success (with_reducible show wpAny _ _ (pyIter (.ref c)) _ _ _)); wp_step))
    have C₁ := C.push (liObj l (0 : Nat))
    have hi1 := C.lt
    have hkm := kmFind w.params
    have I₁ := InstAt.of_news C₁.N (x := c) (List.mem_cons_of_mem _ m2) (List.mem_cons_of_mem _ m3)
    refine owit_iter C₁.F C.X I₁ hkm.2.2.2.2.2.2.2.2.2.2.1 hkm.2.2.2.2.2.2.2.2.2.2.2.2.1 (count_iter (s := ⟨hp.push (liObj l (0 : Nat)), g, d, tk, os⟩) C₁ hk hd (by show un + 1 + 1 + 24 < cLine; omega) fun h₃ tk₃ htk C₃ => ?_)
    have I₃ := InstAt.of_news C₃.N (x := c) (List.mem_cons_of_mem _ m2) (List.mem_cons_of_mem _ m3)
    refine owit_it (s := ⟨h₃, g, d, tk₃, os⟩) C₃.F C.X I₃ hkm.2.2.2.2.2.2.2.2.2.2.2.1 ?_
    have hlt := C₃.lt _ (.head _)
    dsimp only
    refine wpAny_pure ?_
    dsimp only
    unfold List.forIn'.loop
    refine wpAny_pure ?_
    refine wpAny_pure ?_
    refine wpAny_bind (wpAny_newTuple ?_ (hsz := by show 2 ≤ sizeLine; rw [sizeLine_eq]; omega))
    refine wpAny_bind (wpAny_newTuple ?_ (hsz := by show 2 ≤ sizeLine; rw [sizeLine_eq]; omega))
    have C₄ := (C₃.push (tupObj #[.ref hp.objs.size, .ref c])).push (tupObj #[.none, .none])
    repeat (first | rw [hsub] | wp_step)
    have C₅ := C₄.push (zipObj .none (.bool false) h₃.objs.size (h₃.push (tupObj #[.ref hp.objs.size, .ref c])).objs.size)
    refine ⟨⟨_, (C₅.N _ (.head _)).1, rfl⟩, ?_⟩
    refine hret _ _ _ _ _ _ htk hi1 hlt (by rw [Heap.size_push]; exact Nat.lt_succ_self _) (by rw [Heap.size_push (h₃.push _)]; exact Nat.lt_succ_self _) C₅
  · exact object_init_meets PySem.F.called_zip.init.lookup PySem.F.called_zip.made (by decide) _ _ _ _ _ ⟨h₁.1, rfl, h₁.2⟩
end

theorem wpAny_alive {M : Model} {A : Around} {E : Value → Shared → Prop} {s : Shared} {x : Addr} {Q : Option Obj → Shared → Prop} (h : Q (s.heap.get? x) s) : wpAny M A (loadIfAlive x) Q E s := by
  intro Γ q _
  show Sem.wp M Γ (.loadIfAlive x .pure) _ _ q s
  rw [Sem.wp_loadIfAlive]
  exact h
section
variable {prog : Program} {w : World} {A : Around} {E : Value → Shared → Prop} {s : Shared} {it l : Addr} {vs : Array Value} {v : Value} {j : Nat}
theorem nextOf_li0 {Q : Value → Shared → Prop} (ho : s.heap.get? it = some (liObj l j)) (hl : s.heap.IsList l vs) (hx : vs[j]? = some v)
    (hQ : ∀ h', h'.get? it = some (liObj l (j + 1 : Nat)) → Heap.SameBut it s.heap h' → Q v { s with heap := h' }) : wpAny (model prog w) A (Builtin.SmallTypes.nextOf (.ref it)) Q E s := by
  have hit : s.heap.IsListIter it l j := ⟨_, ho, rfl, rfl⟩
  unfold Builtin.SmallTypes.nextOf
  obtain ⟨ol, hol, _, nl, hdl⟩ := hl
  have hd : (liObj l j).data = .fields #[.ref l, .int j 0] := rfl
  refine wpAny_bind (wpAny_callSpecial?_slot (name := Str.ofString "__next__") hit.typeIs slot_listiter_next
    (wpAny_call_entry slot_listiter_next hit.typeIs entry_listiter_next ?_ (args_listiter_next _)))
  show wpAny _ _ (field (.ref it) 0 >>= _) _ _ s
  refine wpAny_bind (wpAny_field ho hd (x := .ref l) rfl ?_)
  show wpAny _ _ (if (Value.ref l == Value.none) = true then _ else _) _ _ s
  rw [if_neg (show ¬ ((Value.ref l == Value.none) = true) from Bool.false_ne_true)]
  show wpAny _ _ (field (.ref it) 1 >>= _) _ _ s
  refine wpAny_bind (wpAny_field ho hd (x := .int j 0) rfl ?_)
  show wpAny _ _ (seqItems? (.ref l) >>= _) _ _ s
  refine wpAny_bind (wpAny_seqItems hol hdl ?_)
  simp only [Int.toNat_natCast, hx]
  refine wpAny_bind (wpAny_setField ho hd (by simp) (wpAny_pure ⟨v, rfl, wpAny_pure (hQ _ ?_ (Heap.SameBut.update ..))⟩))
  rw [Heap.get?_update_self _ ho (Obj.isFreed_of_fields (Obj.data_mapFields hd _))]
  simp [Obj.mapFields, liObj, rawInt]
end
section
variable {w : World} {p : Program} {loose : List Str} {mean : ExcName → Option Value} {mg mb : Str → Option Value} {dp un : Nat} {gd : Option (List Code)} {cn : Str} {cs : Scope} {a : Addr} {ccd : Value} {cl : List (Str × Addr)} {outer : List Env} {A₀ : Around} {base h₀ : Heap} {L : Addr} {m : Str → Option Value} {news rest : List (Addr × Obj)} {s : Shared} {Q E : Value → Shared → Prop}
variable {h h' : Heap} {d : Addr} {ob : Obj}
theorem Cx.ext (C : Cx w p loose mean mg mb A₀ base outer h₀ L m h ((d, ob) :: rest)) (r : ∀ q ∈ rest, q.1 ≠ d) (hx : Heap.ExtBut d h h') : Cx w p loose mean mg mb A₀ base outer h₀ L m h' rest :=
  have hm := C.N _ (.head _)
  ⟨C.B, ⟨C.F.ns.at fun o e => hx L o (fun z => hm.2.1 z.symm) e, fun b o e => hx b o (fun z => by rw [z, hm.2.2] at e; cases e) (C.F.keep b o e), C.F.above⟩, C.X,
    fun q hq => ⟨hx _ _ (r q hq) (C.N _ (.tail _ hq)).1, (C.N _ (.tail _ hq)).2⟩, C.T, C.XB, C.TB⟩
theorem nextOf_li {A : Around} {Q : Value → Shared → Prop} {it l j : Nat} {ol : Obj} {vs : Array Value} {v : Value} (C : Cx w p loose mean mg mb A₀ base outer h₀ L m s.heap ((it, liObj l j) :: rest)) (r : ∀ q ∈ rest, q.1 ≠ it)
    (m1 : (l, ol) ∈ rest) (hol : ol.cls = .type "list") (hod : ∃ ep, ol.data = .seq vs ep) (hx : vs[j]? = some v)
    (hQ : ∀ h', Cx w p loose mean mg mb A₀ base outer h₀ L m h' ((it, liObj l (j + 1 : Nat)) :: rest) → Q v { s with heap := h' }) : wpAny (model PySem.Challenge.pw_ij0047_01 w) A (Builtin.SmallTypes.nextOf (.ref it)) Q E s :=
  nextOf_li0 (C.N _ (.head _)).1 ⟨ol, (C.N _ (.tail _ m1)).1, hol, hod⟩ hx fun h' ho hs => hQ h' (C.setHead r hs ho)
theorem nextOf_count {Q : Value → Shared → Prop} {x dx : Nat} {k : Int} {t t1 : Tok} (C : Cx w p loose mean mg mb A₀ base outer h₀ L m s.heap ((x, cntObj dx k t t1) :: (dx, dictOf [] 0) :: rest)) (hk : cs.kind = .function) (hd : dp + 1 < recursionLimit) (hu : un + 8 < cLine)
    (hk0 : 0 ≤ k) (hk1 : k < 100) (hxd : dx ≠ x) (hr1 : ∀ q ∈ rest, q.1 ≠ x)
    (hret : ∀ (t' : Tok) (h' : Heap) (tk' : Nat), s.toks ≤ tk' → Cx w p loose mean mg mb A₀ base outer h₀ L m h' ((x, cntObj dx (k + 1) t' t1) :: (dx, dictOf [] 0) :: rest) → Q (.int k t) { s with heap := h', toks := tk' }) :
    wpAny (model PySem.Challenge.pw_ij0047_01 w) (ktrTop dp un gd cn cs L a ccd cl outer) (Builtin.SmallTypes.nextOf (.ref x)) Q E s := by
  have hkm := kmFind w.params
  have I := InstAt.of_news C.N (.head _) (.tail _ (.head _))
  unfold Builtin.SmallTypes.nextOf
  refine wpAny_bind (special_fn (name := "__next__") (args := []) (C.X.keeps C.F.keep) I hkm.2.2.2.2.2.2.2.2.2.2.2.1 (beq_iff_eq.mp hkm.2.2.2.2.2.2.2.2.2.2.2.2.2) ?_)
  exact count_next C hk hd hu hk0 hk1 hxd hr1 fun t' h' tk' htk C' => wpAny_pure (hret t' h' tk' htk C')
noncomputable def ZipOk (news : List (Addr × Obj)) (f0 : Value) : Prop := ∃ (T : Nat) (o : Obj), f0 = rawInt T ∧ (T, o) ∈ news
set_option maxRecDepth 100000 in
theorem zip_item {Q : Option Value → Shared → Prop} {z TI TO i1 l c dx j : Nat} {ol : Obj} {vs : Array Value} {f0 f1 x x0 y0 : Value} {k : Int} {t t1 : Tok}
    (C : Cx w p loose mean mg mb A₀ base outer h₀ L m s.heap ((z, zipObj f0 f1 TI TO) :: (TO, tupObj #[x0, y0]) :: (i1, liObj l j) :: (c, cntObj dx k t t1) :: (dx, dictOf [] 0) :: rest)) (hk : cs.kind = .function) (hd : dp + 1 < recursionLimit) (hu : un + 40 < cLine)
    (nd : [z, TO, i1, c, dx].Nodup) (hr : ∀ q ∈ rest, q.1 ∉ [z, TO, i1, c, dx])
    (hf : f0 = .none ∨ ZipOk rest f0) (hk0 : 0 ≤ k) (hk1 : k < 100) (mT : (TI, tupObj #[.ref i1, .ref c]) ∈ rest) (m1 : (l, ol) ∈ rest) (hol : ol.cls = .type "list") (hod : ∃ ep, ol.data = .seq vs ep) (hx : vs[j]? = some x)
    (hret : ∀ (h' : Heap) (tk' T : Nat) (f0' f1' x1 y1 : Value) (t' : Tok), s.toks ≤ tk' → (∀ q ∈ (z, zipObj f0 f1 TI TO) :: (TO, tupObj #[x0, y0]) :: (i1, liObj l j) :: (c, cntObj dx k t t1) :: (dx, dictOf [] 0) :: rest, q.1 < T) →
      (f0' = rawInt T ∨ (f0' = f0 ∧ f0 ≠ .none)) → Cx w p loose mean mg mb A₀ base outer h₀ L m h' ((T, tupObj #[x, .int k t]) :: (z, zipObj f0' f1' TI TO) :: (TO, tupObj #[x1, y1]) :: (i1, liObj l (j + 1 : Nat)) :: (c, cntObj dx (k + 1) t' t1) :: (dx, dictOf [] 0) :: rest) → Q (some (.ref T)) { s with heap := h', toks := tk' }) :
    wpAny (model PySem.Challenge.pw_ij0047_01 w) (ktrTop dp un gd cn cs L a ccd cl outer) (pyNext (.ref z)) Q E s := by
  have hz := (C.N _ (.head _)).1
  have hTI := (C.N _ (.tail _ (.tail _ (.tail _ (.tail _ (.tail _ mT)))))).1
  have hT : s.TypeIs (.ref z) "zip" := ⟨_, hz, rfl⟩
  unfold pyNext
  refine wpAny_bind (wpAny_attempt (wpAny_callSpecial?_slot (name := Str.ofString "__next__") hT PySem.F.slot_zip_next
    (wpAny_call_entry PySem.F.slot_zip_next hT PySem.F.entry_zip_next ?_ (PySem.F.args_zip_next_1 _))))
  have hTI0 := hTI
  show wpAny _ _ (field (.ref z) 2 >>= _) _ _ _
  refine wpAny_bind (wpAny_field hz rfl (x := .bool false) rfl ?_)
  show wpAny _ _ (field (.ref z) 3 >>= _) _ _ _
  refine wpAny_bind (wpAny_field hz rfl (x := .ref TI) rfl ?_)
  refine wpAny_bind (wpAny_seqItems hTI rfl ?_)
  show wpAny _ _ (Builtin.SmallTypes.ownedTupleIsFree (.ref z) >>= _) _ _ _
  refine wpAny_bind ?_
  unfold Builtin.SmallTypes.ownedTupleIsFree
  simp only [List.nodup_cons, List.mem_cons, List.not_mem_nil, or_false, not_or, List.nodup_nil, and_true, not_false_eq_true] at nd hr
  obtain ⟨⟨nz1, nz2, nz3, nz4⟩, ⟨nT1, nT2, nT3⟩, ⟨ni1, ni2⟩, nc1⟩ := nd
  have rz : ∀ q ∈ rest, q.1 ≠ z := fun q hq => (hr q hq).1
  have rO : ∀ q ∈ rest, q.1 ≠ TO := fun q hq => (hr q hq).2.1
  have ri : ∀ q ∈ rest, q.1 ≠ i1 := fun q hq => (hr q hq).2.2.1
  have rc : ∀ q ∈ rest, q.1 ≠ c := fun q hq => (hr q hq).2.2.2.1
  have hd2 : dp + 1 < recursionLimit := hd
  have hu2 : un + 1 + 1 + 1 + 8 < cLine := by omega
  rcases hf with rfl | ⟨T₀, o₀, rfl, hm₀⟩
  · refine wpAny_bind (wpAny_field hz rfl (x := .none) rfl (wpAny_pure ?_))
    show wpAny _ _ (rule _ >>= _) _ _ _
    refine wpAny_bind (wpAny_rule ?_)
    refine wpAny_bind (wpAny_field hz rfl (x := .ref TO) rfl ?_)
    refine wpAny_bind (wpAny_setField_rec hz (by simp) fun h₁ hz₁ hs₁ => ?_)
    have C₁ := C.setHead (ob' := zipObj .ellipsis f1 TI TO) (List.forall_mem_cons.2 ⟨Ne.symm nz1, List.forall_mem_cons.2 ⟨Ne.symm nz2, List.forall_mem_cons.2 ⟨Ne.symm nz3, List.forall_mem_cons.2 ⟨Ne.symm nz4, rz⟩⟩⟩⟩) hs₁ hz₁
    refine wpAny_bind ?_
    show wpAny _ _ ((Sem.onRaise _ _ >>= _) >>= _) _ _ _
    have R5 : ∀ {a b c d : Addr × Obj} {x : Addr}, a.1 ≠ x → b.1 ≠ x → c.1 ≠ x → d.1 ≠ x → (∀ q ∈ rest, q.1 ≠ x) → ∀ q ∈ a :: b :: c :: d :: rest, q.1 ≠ x :=
      fun h1 h2 h3 h4 h5 => List.forall_mem_cons.2 ⟨h1, List.forall_mem_cons.2 ⟨h2, List.forall_mem_cons.2 ⟨h3, List.forall_mem_cons.2 ⟨h4, h5⟩⟩⟩⟩
    refine wpAny_bind (wpAny_bind (wpAny_onRaise ?_))
    show wpAny _ _ (Builtin.SmallTypes.nextOf (.ref i1) >>= _) _ _ _
    have C₁' := C₁.sub (news' := (i1, liObj l j) :: (z, zipObj .ellipsis f1 TI TO) :: (TO, tupObj #[x0, y0]) :: (c, cntObj dx k t t1) :: (dx, dictOf [] 0) :: rest) (by tb_start)
    refine wpAny_bind (nextOf_li (s := { s with heap := h₁ }) C₁' (R5 nz2 nT1 (Ne.symm ni1) (Ne.symm ni2) ri) (.tail _ (.tail _ (.tail _ (.tail _ m1)))) hol hod hx fun h₂ C₂ => wpAny_pure ?_)
    have C₂' := C₂.sub (news' := (TO, tupObj #[x0, y0]) :: (i1, liObj l (j + 1 : Nat)) :: (z, zipObj .ellipsis f1 TI TO) :: (c, cntObj dx k t t1) :: (dx, dictOf [] 0) :: rest) (by tb_start)
    refine wpAny_bind (wpAny_seqItems (C₂'.N _ (.head _)).1 rfl ?_)
    refine wpAny_bind (wpAny_updateSeq_pair (C₂'.N _ (.head _)).1 fun h₃ hTO₃ hs₃ => ?_)
    have C₃ := C₂'.setHead (ob' := tupObj #[x, y0]) (R5 (Ne.symm nT1) nz1 (Ne.symm nT2) (Ne.symm nT3) rO) hs₃ hTO₃
    refine wpAny_bind (wpAny_letGo (wpAny_pure ?_))
    refine wpAny_bind (wpAny_bind (wpAny_onRaise ?_))
    show wpAny _ _ (Builtin.SmallTypes.nextOf (.ref c) >>= _) _ _ _
    have C₃' := C₃.sub (news' := (c, cntObj dx k t t1) :: (dx, dictOf [] 0) :: (TO, tupObj #[x, y0]) :: (i1, liObj l (j + 1 : Nat)) :: (z, zipObj .ellipsis f1 TI TO) :: rest) (by tb_start)
    refine wpAny_bind (nextOf_count (s := { s with heap := h₃ }) C₃' hk hd2 (by show un + 1 + 8 < cLine; omega) hk0 hk1 (Ne.symm nc1) (by simp only [List.forall_mem_cons]; exact ⟨nT2, ni1, nz3, rc⟩) fun t' h₄ tk' htk C₄ => wpAny_pure ?_)
    have C₄' := C₄.sub (news' := (TO, tupObj #[x, y0]) :: (c, cntObj dx (k + 1) t' t1) :: (dx, dictOf [] 0) :: (i1, liObj l (j + 1 : Nat)) :: (z, zipObj .ellipsis f1 TI TO) :: rest) (by tb_start)
    refine wpAny_bind (wpAny_seqItems (C₄'.N _ (.head _)).1 rfl ?_)
    refine wpAny_bind (wpAny_updateSeq_pair (C₄'.N _ (.head _)).1 fun h₅ hTO₅ hs₅ => ?_)
    have C₅ := C₄'.setHead (ob' := tupObj #[x, .int k t]) (R5 (Ne.symm nT2) (Ne.symm nT3) (Ne.symm nT1) nz1 rO) hs₅ hTO₅
    refine wpAny_bind (wpAny_letGo (wpAny_pure (wpAny_pure ?_)))
    refine wpAny_bind (wpAny_seqItems (C₅.N _ (.head _)).1 rfl ?_)
    refine wpAny_bind (wpAny_newTuple ?_ (hsz := by show 2 ≤ sizeLine; rw [sizeLine_eq]; omega))
    have ltAll : ∀ q ∈ (z, zipObj .none f1 TI TO) :: (TO, tupObj #[x0, y0]) :: (i1, liObj l j) :: (c, cntObj dx k t t1) :: (dx, dictOf [] 0) :: rest, q.1 < h₅.objs.size := by
      have h5 := C₅.lt
      simp only [List.forall_mem_cons] at h5 ⊢
      obtain ⟨a1, a2, a3, a4, a5, a6⟩ := h5
      exact ⟨a5, a1, a4, a2, a3, a6⟩
    have C₆ := C₅.push (tupObj #[x, .int k t])
    have C₆' := C₆.sub (news' := (z, zipObj .ellipsis f1 TI TO) :: (h₅.objs.size, tupObj #[x, .int k t]) :: (TO, tupObj #[x, .int k t]) :: (i1, liObj l (j + 1 : Nat)) :: (c, cntObj dx (k + 1) t' t1) :: (dx, dictOf [] 0) :: rest) (by tb_start)
    have hzT : h₅.objs.size ≠ z := Nat.ne_of_gt (ltAll _ (.head _))
    have rall : ∀ q ∈ (h₅.objs.size, tupObj #[x, .int k t]) :: (TO, tupObj #[x, .int k t]) :: (i1, liObj l (j + 1 : Nat)) :: (c, cntObj dx (k + 1) t' t1) :: (dx, dictOf [] 0) :: rest, q.1 ≠ z := by
      simp only [List.forall_mem_cons]; exact ⟨hzT, Ne.symm nz1, Ne.symm nz2, Ne.symm nz3, Ne.symm nz4, rz⟩
    show wpAny _ _ (Builtin.SmallTypes.ownedTupleHandOut (.ref z) (.ref h₅.objs.size) >>= _) _ _ _
    refine wpAny_bind ?_
    unfold Builtin.SmallTypes.ownedTupleHandOut
    refine wpAny_bind (wpAny_setField_rec (C₆'.N _ (.head _)).1 (by simp) fun h₇ hz₇ hs₇ => ?_)
    have C₇ := C₆'.setHead (ob' := zipObj (rawInt h₅.objs.size) f1 TI TO) rall hs₇ hz₇
    refine wpAny_setField_rec (C₇.N _ (.head _)).1 (by simp) fun h₈ hz₈ hs₈ => ?_
    have C₈ := C₇.setHead (ob' := zipObj (rawInt h₅.objs.size) (.bool false) TI TO) rall hs₈ hz₈
    refine wpAny_pure ⟨_, rfl, wpAny_pure ?_⟩
    exact hret h₈ tk' h₅.objs.size _ _ _ _ t' htk ltAll (.inl rfl) (C₈.sub (by tb_start))
  · obtain ⟨hp, g, d, tk, os⟩ := s
    refine wpAny_bind (wpAny_field hz rfl (x := rawInt T₀) rfl ?_)
    show wpAny _ _ (loadIfAlive ((T₀ : Int).toNat) >>= _) _ _ _
    refine wpAny_bind (wpAny_alive ?_)
    have hTo := (C.N _ (.tail _ (.tail _ (.tail _ (.tail _ (.tail _ hm₀)))))).1
    rw [Int.toNat_natCast, hTo]
    refine wpAny_ite_split (fun hab => absurd hab (by simp)) (fun _ => ?_)
    refine wpAny_bind (wpAny_field hz rfl (x := f1) rfl ?_)
    have rall : ∀ q ∈ (TO, tupObj #[x0, y0]) :: (i1, liObj l j) :: (c, cntObj dx k t t1) :: (dx, dictOf [] 0) :: rest, q.1 ≠ z := by
      simp only [List.forall_mem_cons]; exact ⟨Ne.symm nz1, Ne.symm nz2, Ne.symm nz3, Ne.symm nz4, rz⟩
    refine wpAny_mono (Q := fun b s' => b = false ∧ ∃ h₁ f1', s' = ⟨h₁, g, d, tk, os⟩ ∧ Cx w p loose mean mg mb A₀ base outer h₀ L m h₁ ((z, zipObj (rawInt T₀) f1' TI TO) :: (TO, tupObj #[x0, y0]) :: (i1, liObj l j) :: (c, cntObj dx k t t1) :: (dx, dictOf [] 0) :: rest)) ?_ (fun b s' hb => ?_) (fun _ _ e => e)
    · refine wpAny_ite_split (fun _ => ?_) (fun _ => ?_)
      · refine wpAny_bind (wpAny_setField_rec hz (by simp) fun h₁ hz₁ hs₁ => ?_)
        exact wpAny_pure ⟨rfl, h₁, .bool true, rfl, C.setHead rall hs₁ hz₁⟩
      · exact wpAny_pure ⟨rfl, hp, f1, rfl, C⟩
    obtain ⟨rfl, h₁, f1', rfl, C₁⟩ := hb
    refine wpAny_ite_split (fun hab => absurd hab (by simp)) (fun _ => ?_)
    refine wpAny_bind ?_
    rw [← Array.forIn_toList]
    show wpAny _ _ ((holding _ _ >>= _) >>= _) _ _ _
    refine wpAny_bind (wpAny_bind (wpAny_holding ?_))
    show wpAny _ _ (Builtin.SmallTypes.nextOf (.ref i1) >>= _) _ _ _
    have C₁' := C₁.sub (news' := (i1, liObj l j) :: (z, zipObj (rawInt T₀) f1' TI TO) :: (TO, tupObj #[x0, y0]) :: (c, cntObj dx k t t1) :: (dx, dictOf [] 0) :: rest) (by tb_start)
    refine wpAny_bind (nextOf_li (s := ⟨h₁, g, d, tk, os⟩) C₁' (by simp only [List.forall_mem_cons]; exact ⟨nz2, nT1, Ne.symm ni1, Ne.symm ni2, ri⟩) (.tail _ (.tail _ (.tail _ (.tail _ m1)))) hol hod hx fun h₂ C₂ => wpAny_pure ?_)
    refine wpAny_pure ?_
    refine wpAny_bind (wpAny_bind (wpAny_holding ?_))
    show wpAny _ _ (Builtin.SmallTypes.nextOf (.ref c) >>= _) _ _ _
    have C₃' := C₂.sub (news' := (c, cntObj dx k t t1) :: (dx, dictOf [] 0) :: (TO, tupObj #[x0, y0]) :: (i1, liObj l (j + 1 : Nat)) :: (z, zipObj (rawInt T₀) f1' TI TO) :: rest) (by tb_start)
    refine wpAny_bind (nextOf_count (s := ⟨h₂, g, d, tk, os⟩) C₃' hk hd2 (by show un + 1 + 8 < cLine; omega) hk0 hk1 (Ne.symm nc1) (by simp only [List.forall_mem_cons]; exact ⟨nT2, ni1, nz3, rc⟩) fun t' h₄ tk' htk C₄ => wpAny_pure ?_)
    refine wpAny_pure (wpAny_pure ?_)
    refine wpAny_bind (wpAny_newTuple ?_ (hsz := by show 2 ≤ sizeLine; rw [sizeLine_eq]; omega))
    have ltAll : ∀ q ∈ (z, zipObj (rawInt T₀) f1 TI TO) :: (TO, tupObj #[x0, y0]) :: (i1, liObj l j) :: (c, cntObj dx k t t1) :: (dx, dictOf [] 0) :: rest, q.1 < h₄.objs.size := by
      have h5 := C₄.lt
      simp only [List.forall_mem_cons] at h5 ⊢
      obtain ⟨a1, a2, a3, a4, a5, a6⟩ := h5
      exact ⟨a5, a3, a4, a1, a2, a6⟩
    have C₅ := C₄.push (tupObj #[x, .int k t])
    refine wpAny_pure ⟨_, rfl, wpAny_pure ?_⟩
    exact hret _ tk' h₄.objs.size (rawInt T₀) f1' x0 y0 t' htk ltAll (.inr ⟨rfl, by simp [rawInt]⟩) (C₅.sub (by tb_start))
end

section
variable {w : World} {p : Program} {loose : List Str} {mean : ExcName → Option Value} {mg mb : Str → Option Value} {dp un : Nat} {gd : Option (List Code)} {cn : Str} {cs : Scope} {a : Addr} {ccd : Value} {cl : List (Str × Addr)} {outer : List Env} {A₀ : Around} {base h₀ : Heap} {L : Addr} {m : Str → Option Value} {news rest : List (Addr × Obj)} {s : Shared} {Q E : Value → Shared → Prop}
set_option maxRecDepth 100000 in
theorem zip_end {Q : Option Value → Shared → Prop} {z TI TO i1 l c j T₀ : Nat} {ol o₀ : Obj} {vs : Array Value} {f1 : Value}
    (C : Cx w p loose mean mg mb A₀ base outer h₀ L m s.heap ((i1, liObj l j) :: (z, zipObj (rawInt T₀) f1 TI TO) :: rest))
    (n1 : z ≠ i1) (r1 : ∀ q ∈ rest, q.1 ≠ i1) (r2 : ∀ q ∈ rest, q.1 ≠ z) (hm₀ : (T₀, o₀) ∈ rest) (mT : (TI, tupObj #[.ref i1, .ref c]) ∈ rest) (m1 : (l, ol) ∈ rest) (hol : ol.cls = .type "list") (hod : ∃ ep, ol.data = .seq vs ep) (hx : vs[j]? = none)
    (hret : ∀ (h' : Heap), Cx w p loose mean mg mb A₀ base outer h₀ L m h' rest → Q none { s with heap := h' }) :
    wpAny (model PySem.Challenge.pw_ij0047_01 w) (ktrTop dp un gd cn cs L a ccd cl outer) (pyNext (.ref z)) Q E s := by
  have hz := (C.N _ (.tail _ (.head _))).1
  have hTI := (C.N _ (.tail _ (.tail _ mT))).1
  have hT : s.TypeIs (.ref z) "zip" := ⟨_, hz, rfl⟩
  unfold pyNext
  refine wpAny_bind (wpAny_attempt (wpAny_callSpecial?_slot (name := Str.ofString "__next__") hT PySem.F.slot_zip_next
    (wpAny_call_entry PySem.F.slot_zip_next hT PySem.F.entry_zip_next ?_ (PySem.F.args_zip_next_1 _))))
  show wpAny _ _ (field (.ref z) 2 >>= _) _ _ _
  refine wpAny_bind (wpAny_field hz rfl (x := .bool false) rfl ?_)
  show wpAny _ _ (field (.ref z) 3 >>= _) _ _ _
  refine wpAny_bind (wpAny_field hz rfl (x := .ref TI) rfl ?_)
  refine wpAny_bind (wpAny_seqItems hTI rfl ?_)
  show wpAny _ _ (Builtin.SmallTypes.ownedTupleIsFree (.ref z) >>= _) _ _ _
  refine wpAny_bind ?_
  unfold Builtin.SmallTypes.ownedTupleIsFree
  obtain ⟨hp, g, d, tk, os⟩ := s
  refine wpAny_bind (wpAny_field hz rfl (x := rawInt T₀) rfl ?_)
  show wpAny _ _ (loadIfAlive ((T₀ : Int).toNat) >>= _) _ _ _
  refine wpAny_bind (wpAny_alive ?_)
  have hTo := (C.N _ (.tail _ (.tail _ hm₀))).1
  rw [Int.toNat_natCast, hTo]
  refine wpAny_ite_split (fun hab => absurd hab (by simp)) (fun _ => ?_)
  refine wpAny_bind (wpAny_field hz rfl (x := f1) rfl ?_)
  have C' := C.sub (news' := (z, zipObj (rawInt T₀) f1 TI TO) :: (i1, liObj l j) :: rest) (by tb_start)
  refine wpAny_mono (Q := fun b s' => b = false ∧ ∃ h₁ f1', s' = ⟨h₁, g, d, tk, os⟩ ∧ Cx w p loose mean mg mb A₀ base outer h₀ L m h₁ ((z, zipObj (rawInt T₀) f1' TI TO) :: (i1, liObj l j) :: rest)) ?_ (fun b s' hb => ?_) (fun _ _ e => e)
  · refine wpAny_ite_split (fun _ => ?_) (fun _ => ?_)
    · refine wpAny_bind (wpAny_setField_rec hz (by simp) fun h₁ hz₁ hs₁ => ?_)
      exact wpAny_pure ⟨rfl, h₁, .bool true, rfl, C'.setHead (List.forall_mem_cons.2 ⟨Ne.symm n1, r2⟩) hs₁ hz₁⟩
    · exact wpAny_pure ⟨rfl, hp, f1, rfl, C'⟩
  obtain ⟨rfl, h₁, f1', rfl, C₁⟩ := hb
  refine wpAny_ite_split (fun hab => absurd hab (by simp)) (fun _ => ?_)
  refine wpAny_bind ?_
  rw [← Array.forIn_toList]
  simp only [List.forIn_cons, List.forIn_nil]
  refine wpAny_bind (wpAny_bind (wpAny_holding ?_))
  show wpAny _ _ (Builtin.SmallTypes.nextOf (.ref i1) >>= _) _ _ _
  have C₁' := C₁.sub (news' := (i1, liObj l j) :: (z, zipObj (rawInt T₀) f1' TI TO) :: rest) (by tb_start)
  refine wpAny_bind (wpAny_nextOf_list_end rfl ⟨_, (C₁'.N _ (.head _)).1, rfl, rfl⟩ ⟨ol, (C₁'.N _ (.tail _ (.tail _ m1))).1, hol, hod⟩ hx fun h₂ e hs₂ he => ?_)
  obtain ⟨o, ho, hc⟩ := he
  refine wpAny_bind (wpAny_isInstance (T := "StopIteration") (b := true) ⟨o, ho, hc⟩ isSubtype_stop ?_)
  refine wpAny_pure ?_
  exact hret h₂ ((C₁'.ext (List.forall_mem_cons.2 ⟨n1, r1⟩) hs₂).sub fun q hq => .tail _ hq)
noncomputable def TupsTo (vs : List Value) (acc : Array Value) (ents : List (Addr × Obj)) (j : Nat) : Prop := acc.size = j ∧ ∀ i, i < j → ∃ (T : Nat) (t : Tok), acc[i]? = some (.ref T) ∧ (T, tupObj #[vs.getD i .none, .int i t]) ∈ ents
set_option maxRecDepth 100000 in
theorem zip_loop {R : Result → Shared → Prop} {res : Value} {S z TI TO i1 l c dx : Nat} {ol : Obj} {vs : List Value} {t1 : Tok} (hk : cs.kind = .function) (hd : dp + 1 < recursionLimit) (hu : un + 41 < cLine)
    (nd : [S, z, TO, i1, c, dx].Nodup) (hr : ∀ q ∈ rest, q.1 ∉ [S, z, TO, i1, c, dx]) (hn : 1 ≤ vs.length) (hn1 : vs.length < 64)
    (mT : (TI, tupObj #[.ref i1, .ref c]) ∈ rest) (m1 : (l, ol) ∈ rest) (hol : ol.cls = .type "list") (hod : ∃ ep, ol.data = .seq vs.toArray ep) :
    ∀ (f j : Nat) (s : Shared) (acc : Array Value) (c0 : Nat) (ents : List (Addr × Obj)) (f0 f1 x0 y0 : Value) (t : Tok), j + f = vs.length →
      Cx w p loose mean mg mb A₀ base outer h₀ L m s.heap ((S, listOf acc c0) :: (z, zipObj f0 f1 TI TO) :: (TO, tupObj #[x0, y0]) :: (i1, liObj l j) :: (c, cntObj dx j t t1) :: (dx, dictOf [] 0) :: (ents ++ rest)) →
      (∀ q ∈ ents, q.1 ∉ [S, z, TO, i1, c, dx]) → TupsTo vs acc ents j → ((j = 0 ∧ f0 = .none) ∨ ZipOk ents f0) →
      (∀ (h' : Heap) (tk' c' : Nat) (acc' : Array Value) (ents' : List (Addr × Obj)), s.toks ≤ tk' → TupsTo vs acc' ents' vs.length → (∀ q ∈ ents', q.1 ≠ S) → Cx w p loose mean mg mb A₀ base outer h₀ L m h' ((S, listOf acc' c') :: (ents' ++ rest)) → R (.ok (.ret res)) { s with heap := h', toks := tk' }) →
      codeAny (model PySem.Challenge.pw_ij0047_01 w) (ktrTop dp un gd cn cs L a ccd cl outer) (.builtin "list.extend.loop" ⟨[.ref S, .ref z, res], []⟩) R s := by
  have nd0 := nd
  simp only [List.nodup_cons, List.mem_cons, List.not_mem_nil, or_false, not_or, List.nodup_nil, and_true, not_false_eq_true] at nd
  obtain ⟨⟨nS1, nS2, nS3, nS4, nS5⟩, ⟨nz1, nz2, nz3, nz4⟩, ⟨nT1, nT2, nT3⟩, ⟨ni1, ni2⟩, nc1⟩ := nd
  have hall : ∀ {ents : List (Addr × Obj)}, (∀ q ∈ ents, q.1 ∉ [S, z, TO, i1, c, dx]) → ∀ q ∈ ents ++ rest, q.1 ∉ [S, z, TO, i1, c, dx] := fun he q hq => (List.mem_append.mp hq).elim (he q) (hr q)
  intro f
  induction f with
  | zero =>
    intro j s acc c0 ents f0 f1 x0 y0 t hj C he hT hz hfin
    have hj' : j = vs.length := by omega
    subst hj'
    refine ext_loop ?_
    rcases hz with ⟨h0, _⟩ | ⟨T₀, o₀, rfl, hm₀⟩
    · omega
    have hal := hall he
    have C' := C.sub (news' := (i1, liObj l vs.length) :: (z, zipObj (rawInt T₀) f1 TI TO) :: (S, listOf acc c0) :: (ents ++ rest)) (by tb_start)
    refine zip_end (un := un + 1) C' nz2 (List.forall_mem_cons.2 ⟨nS3, fun q hq => fun z => hal q hq (by simp [z])⟩) (List.forall_mem_cons.2 ⟨nS1, fun q hq => fun z => hal q hq (by simp [z])⟩) (.tail _ (List.mem_append_left _ hm₀)) (.tail _ (List.mem_append_right _ mT)) (.tail _ (List.mem_append_right _ m1)) hol hod (by simp) fun h' C₁ => ?_
    exact hfin h' s.toks c0 acc ents (Nat.le_refl _) hT (fun q hq => fun z => he q hq (by simp [z])) C₁
  | succ f ih =>
    intro j s acc c0 ents f0 f1 x0 y0 t hj C he hT hz hfin
    refine ext_loop ?_
    have hal := hall he
    have C' := C.sub (news' := (z, zipObj f0 f1 TI TO) :: (TO, tupObj #[x0, y0]) :: (i1, liObj l j) :: (c, cntObj dx j t t1) :: (dx, dictOf [] 0) :: ((S, listOf acc c0) :: (ents ++ rest))) (by tb_start)
    have hx : vs.toArray[j]? = some (vs.getD j .none) := by simp [List.getElem?_eq_getElem (show j < vs.length by omega), List.getD]
    refine zip_item (un := un + 1) C' hk hd (by omega) (by simp only [List.nodup_cons] at nd0 ⊢; exact nd0.2) (List.forall_mem_cons.2 ⟨by simp only [List.mem_cons, List.not_mem_nil, or_false, not_or]; exact ⟨nS1, nS2, nS3, nS4, nS5⟩, fun q hq => fun hm => hal q hq (.tail _ hm)⟩)
      (hz.imp (fun h => h.2) fun ⟨T₀, o₀, e, hm⟩ => ⟨T₀, o₀, e, .tail _ (List.mem_append_left _ hm)⟩) (by omega) (by omega) (.tail _ (List.mem_append_right _ mT)) (.tail _ (List.mem_append_right _ m1)) hol hod hx fun h' tk' T f0' f1' x1 y1 t' htk lt hz' C₁ => ?_
    have hTS : S ≠ T := Nat.ne_of_lt (lt _ (.tail _ (.tail _ (.tail _ (.tail _ (.tail _ (.head _)))))))
    have C₂ := C₁.sub (news' := (S, listOf acc c0) :: (z, zipObj f0' f1' TI TO) :: (TO, tupObj #[x1, y1]) :: (i1, liObj l (j + 1 : Nat)) :: (c, cntObj dx (j + 1) t' t1) :: (dx, dictOf [] 0) :: (((T, tupObj #[vs.getD j .none, .int j t]) :: ents) ++ rest)) (by tb_start)
    have he' : ∀ q ∈ (T, tupObj #[vs.getD j .none, .int j t]) :: ents, q.1 ∉ [S, z, TO, i1, c, dx] := by
      refine List.forall_mem_cons.2 ⟨?_, he⟩
      simp only [List.forall_mem_cons] at lt
      obtain ⟨b1, b2, b3, b4, b5, b6, b7⟩ := lt
      simp only [List.mem_cons, List.not_mem_nil, or_false, not_or]
      exact ⟨Nat.ne_of_gt b6, Nat.ne_of_gt b1, Nat.ne_of_gt b2, Nat.ne_of_gt b3, Nat.ne_of_gt b4, Nat.ne_of_gt b5⟩
    have hal' := hall he'
    refine ⟨acc, c0, (C₂.N _ (.head _)).1, by rw [hT.1, sizeLine_eq]; omega, fun h'' c'' hS'' sb => ?_⟩
    have C₃ := C₂.setHead (ob' := listOf (acc.push (.ref T)) c'') (by simp only [List.forall_mem_cons]; exact ⟨Ne.symm nS1, Ne.symm nS2, Ne.symm nS3, Ne.symm nS4, Ne.symm nS5, fun q hq => fun z => hal' q hq (by simp [z])⟩) sb hS''
    refine ih (j + 1) { s with heap := h'', toks := tk' } (acc.push (.ref T)) c'' _ f0' f1' x1 y1 t' (by omega) (by push_cast; exact C₃) he' ⟨by rw [Array.size_push, hT.1], fun i hi => ?_⟩ (.inr ?_) fun h3 tk3 c3 acc3 ents3 htk3 hT3 hS3 C4 => hfin h3 tk3 c3 acc3 ents3 (Nat.le_trans htk htk3) hT3 hS3 C4
    · by_cases hij : i = j
      · subst hij
        exact ⟨T, t, by rw [Array.getElem?_push, hT.1]; simp, .head _⟩
      · obtain ⟨T', t'', e, hm⟩ := hT.2 i (by omega)
        exact ⟨T', t'', by rw [Array.getElem?_push, hT.1]; simp [hij, e], .tail _ hm⟩
    · rcases hz' with e | ⟨e, hne⟩
      · exact ⟨T, _, e, .head _⟩
      · rcases hz with ⟨_, e0⟩ | ⟨T₀, o₀, e0, hm₀⟩
        · exact absurd e0 hne
        · exact ⟨T₀, o₀, e.trans e0, .tail _ hm₀⟩
end

theorem countP_lt {α : Type} {f g : α → Bool} : ∀ {l : List α}, (∀ x ∈ l, f x = true → g x = true) → (∃ x ∈ l, g x = true ∧ f x = false) → l.countP f < l.countP g
  | [], _, h => by obtain ⟨_, hm, _⟩ := h; exact nomatch hm
  | y :: l, hs, h => by
    have hle : l.countP f ≤ l.countP g := List.countP_mono_left (fun x hx => hs x (.tail _ hx))
    rw [List.countP_cons, List.countP_cons]
    obtain ⟨x, hm, hg, hf⟩ := h
    rcases List.mem_cons.mp hm with rfl | hm
    · rw [hf, hg]; simp; omega
    · have := countP_lt (f := f) (g := g) (l := l) (fun x hx => hs x (.tail _ hx)) ⟨x, hm, hg, hf⟩
      have h1 := hs y (.head _)
      cases hy : f y
      · simp; omega
      · rw [h1 hy]; simp; omega
/-- bytes in their order -/
noncomputable def bl (a b : Array UInt8) : Bool := Builtin.Bytes.order a.toList b.toList == .lt
theorem order_refl : ∀ a : List UInt8, Builtin.Bytes.order a a = .eq
  | [] => rfl
  | x :: a => by simp [Builtin.Bytes.order, UInt8.lt_irrefl, order_refl a]
theorem order_lt_trans : ∀ a b c : List UInt8, Builtin.Bytes.order a b = .lt → Builtin.Bytes.order b c = .lt → Builtin.Bytes.order a c = .lt
  | [], [], _, h, _ => by simp [Builtin.Bytes.order] at h
  | [], _ :: _, [], _, h => by simp [Builtin.Bytes.order] at h
  | [], _ :: _, _ :: _, _, _ => rfl
  | _ :: _, [], _, h, _ => by simp [Builtin.Bytes.order] at h
  | _ :: _, _ :: _, [], _, h => by simp [Builtin.Bytes.order] at h
  | x :: a, y :: b, z :: c, h1, h2 => by
    simp only [Builtin.Bytes.order] at h1 h2 ⊢
    by_cases xy : x < y
    · by_cases yz : y < z
      · rw [if_pos (UInt8.lt_trans xy yz)]
      · rw [if_neg yz] at h2
        by_cases zy : y > z
        · rw [if_pos zy] at h2; cases h2
        · have : y = z := UInt8.le_antisymm (UInt8.not_lt.mp zy) (UInt8.not_lt.mp yz)
          subst this; rw [if_pos xy]
    · rw [if_neg xy] at h1
      by_cases yx : x > y
      · rw [if_pos yx] at h1; cases h1
      · rw [if_neg yx] at h1
        have : x = y := UInt8.le_antisymm (UInt8.not_lt.mp yx) (UInt8.not_lt.mp xy)
        subst this
        by_cases xz : x < z
        · rw [if_pos xz]
        · rw [if_neg xz] at h2 ⊢
          by_cases zx : x > z
          · rw [if_pos zx] at h2; cases h2
          · rw [if_neg zx] at h2 ⊢
            exact order_lt_trans a b c h1 h2
theorem order_total : ∀ a b : List UInt8, a ≠ b → Builtin.Bytes.order a b = .lt ∨ Builtin.Bytes.order b a = .lt
  | [], [], h => absurd rfl h
  | [], _ :: _, _ => .inl rfl
  | _ :: _, [], _ => .inr rfl
  | x :: a, y :: b, h => by
    simp only [Builtin.Bytes.order]
    by_cases xy : x < y
    · exact .inl (by rw [if_pos xy])
    · by_cases yx : y < x
      · exact .inr (by rw [if_pos yx])
      · have : x = y := UInt8.le_antisymm (UInt8.not_lt.mp yx) (UInt8.not_lt.mp xy)
        subst this
        have := order_total a b (fun e => h (by rw [e]))
        rcases this with h1 | h1
        · exact .inl (by rw [if_neg xy, if_neg (show ¬ x > x from xy)]; exact h1)
        · exact .inr (by rw [if_neg xy, if_neg (show ¬ x > x from xy)]; exact h1)
theorem bl_irrefl (a : Array UInt8) : bl a a = false := by simp [bl, order_refl]
theorem bl_trans {a b c : Array UInt8} (h1 : bl a b = true) (h2 : bl b c = true) : bl a c = true := by
  simp only [bl, beq_iff_eq] at *; exact order_lt_trans _ _ _ h1 h2
theorem bl_total {a b : Array UInt8} (h : a ≠ b) : bl a b = true ∨ bl b a = true := by
  simp only [bl, beq_iff_eq]; exact order_total _ _ (fun e => h (by cases a; cases b; simpa using e))
/-- how many of the first n keys are below key i -/
noncomputable def rk (n : Nat) (key : Nat → Array UInt8) (i : Nat) : Nat := (List.range n).countP fun j => bl (key j) (key i)
section
variable {n : Nat} {key : Nat → Array UInt8}
theorem rk_lt (i : Nat) (hi : i < n) : rk n key i < n := by
  have h : (List.range n).countP (fun j => bl (key j) (key i)) < (List.range n).countP (fun _ => true) :=
    countP_lt (fun _ _ _ => rfl) ⟨i, List.mem_range.mpr hi, rfl, bl_irrefl _⟩
  have e : (List.range n).countP (fun _ => true) = n := by simp
  rw [e] at h
  exact h
theorem rk_mono {i j : Nat} (hi : i < n) (h : bl (key i) (key j) = true) : rk n key i < rk n key j :=
  countP_lt (fun _ _ hx => bl_trans hx h) ⟨i, List.mem_range.mpr hi, h, bl_irrefl _⟩
theorem rk_iff (hk : ∀ i j, i < n → j < n → key i = key j → i = j) {i j : Nat} (hi : i < n) (hj : j < n) : bl (key i) (key j) = decide (rk n key i < rk n key j) := by
  by_cases e : key i = key j
  · have := hk i j hi hj e; subst this
    rw [bl_irrefl]; simp
  · rcases bl_total e with h | h
    · rw [h]; exact (decide_eq_true (rk_mono hi h)).symm
    · have h1 := rk_mono (n := n) hj h
      have h2 : bl (key i) (key j) = false := by
        cases q : bl (key i) (key j)
        · rfl
        · have := bl_trans q h; rw [bl_irrefl] at this; cases this
      rw [h2]; exact (decide_eq_false (by omega)).symm
theorem rk_inj (hk : ∀ i j, i < n → j < n → key i = key j → i = j) : ∀ i j, i < n → j < n → rk n key i = rk n key j → i = j := fun i j hi hj h => by
  apply Classical.byContradiction
  intro hne
  rcases bl_total (fun e => hne (hk i j hi hj e)) with q | q
  · have := rk_mono (n := n) hi q; omega
  · have := rk_mono (n := n) hj q; omega
end
/-- a rising run of n numbers below n is 0, 1, .. -/
theorem rising_id {n : Nat} {f : Nat → Nat} (hf : ∀ k, k < n → f k < n) (hm : ∀ i j, i < j → j < n → f i < f j) : ∀ k, k < n → f k = k := by
  have lo : ∀ k, k < n → k ≤ f k := by
    intro k
    induction k with
    | zero => intro _; exact Nat.zero_le _
    | succ k ih => intro h; exact Nat.lt_of_le_of_lt (ih (Nat.lt_of_succ_lt h)) (hm k (k + 1) (Nat.lt_succ_self k) h)
  have hi : ∀ d k, k + d + 1 = n → f k ≤ k := by
    intro d
    induction d with
    | zero => intro k h; exact Nat.le_of_lt_succ (by rw [show k.succ = n from h]; exact hf k (h ▸ Nat.lt_succ_self k))
    | succ d ih =>
      intro k h
      have h1 : k + 1 + d + 1 = n := by rw [Nat.add_right_comm k 1 d]; exact h
      exact Nat.le_of_lt_succ (Nat.lt_of_lt_of_le (hm k (k + 1) (Nat.lt_succ_self k) (h1 ▸ Nat.lt_succ_of_le (Nat.le_add_right _ _))) (ih (k + 1) h1))
  intro k hk
  exact Nat.le_antisymm (hi (n - 1 - k) k (by rw [Nat.sub_sub, Nat.add_assoc, Nat.add_comm (n - (1 + k)) 1, ← Nat.add_assoc, Nat.add_comm k 1]; exact Nat.add_sub_cancel' (by rw [Nat.add_comm]; exact hk))) (lo k hk)
/-- what a tree asks on its way -/
noncomputable def Asked {α : Type} (P : Nat → Nat → Prop) (lt : Nat → Nat → Bool) : KasT α → Prop
  | .ret _ => True
  | .ask i j k => P i j ∧ Asked P lt (k (lt i j))
theorem asked_bind {α β : Type} {P : Nat → Nat → Prop} {lt : Nat → Nat → Bool} {f : α → KasT β} : ∀ {t : KasT α}, Asked P lt t → Asked P lt (f (runT lt t)) → Asked P lt (t.bind f)
  | .ret _, _, h => h
  | .ask i j k, h, h' => ⟨h.1, asked_bind (t := k (lt i j)) h.2 h'⟩
section
variable {n : Nat} {lt : Nat → Nat → Bool}
noncomputable abbrev Below2 (n : Nat) (i j : Nat) : Prop := i < n ∧ j < n
noncomputable def AllIn (n : Nat) (p : Array Nat) : Prop := ∀ x, p.getD x 0 < n
theorem allIn_rev (hn : 0 < n) {p : Array Nat} (hp : AllIn n p) (i j : Nat) : AllIn n (kas_rev p i j) := fun x => by
  have hperm : (kas_rev p i j).Perm p := mirror_perm p i j _
  rw [Array.getD_eq_getD_getElem?]
  cases h : (kas_rev p i j)[x]? with
  | none => exact hn
  | some v =>
    have hv : v ∈ p := hperm.mem_iff.mp (Array.mem_of_getElem? h)
    obtain ⟨y, hy, rfl⟩ := Array.mem_iff_getElem.mp hv
    have := hp y
    rw [Array.getD_eq_getD_getElem?, getElem?_pos p y hy] at this
    exact this
theorem allIn_bubble (hn : 0 < n) {p : Array Nat} (hp : AllIn n p) (i j : Nat) : AllIn n (bubble p i j) := fun x => by
  have hperm : (bubble p i j).Perm p := bubble_perm p i j
  rw [Array.getD_eq_getD_getElem?]
  cases h : (bubble p i j)[x]? with
  | none => exact hn
  | some v =>
    have hv : v ∈ p := hperm.mem_iff.mp (Array.mem_of_getElem? h)
    obtain ⟨y, hy, rfl⟩ := Array.mem_iff_getElem.mp hv
    have := hp y
    rw [Array.getD_eq_getD_getElem?, getElem?_pos p y hy] at this
    exact this
theorem asc_asked {p : Array Nat} (hp : AllIn n p) : ∀ f k, Asked (Below2 n) lt (kas_asc p f k)
  | 0, _ => trivial
  | f + 1, k => by
    refine ⟨⟨hp _, hp _⟩, ?_⟩
    dsimp only
    by_cases h : lt (p.getD k 0) (p.getD (k - 1) 0) = true
    · rw [if_pos h]; trivial
    · rw [if_neg h]; exact asc_asked hp f (k + 1)
theorem desc_asked (hn : 0 < n) : ∀ f (p : Array Nat) k q, AllIn n p → Asked (Below2 n) lt (kas_desc f p k q) ∧ AllIn n (runT lt (kas_desc f p k q)).1
  | 0, p, _, _, hp => ⟨trivial, hp⟩
  | f + 1, p, k, q, hp => by
    have e : runT lt (kas_desc (f + 1) p k q) = runT lt (if lt (p.getD k 0) (p.getD (k - 1) 0) = true then (if q > 0 then kas_desc f (kas_rev p (k - (q + 1)) k) (k + 1) 0 else kas_desc f p (k + 1) 0)
      else .ask (p.getD (k - 1) 0) (p.getD k 0) fun d => if d = true then .ret (p, k, q) else kas_desc f p (k + 1) (q + 1)) := rfl
    rw [e]
    show (Below2 n _ _ ∧ Asked (Below2 n) lt (if lt (p.getD k 0) (p.getD (k - 1) 0) = true then (if q > 0 then kas_desc f (kas_rev p (k - (q + 1)) k) (k + 1) 0 else kas_desc f p (k + 1) 0)
      else .ask (p.getD (k - 1) 0) (p.getD k 0) fun d => if d = true then .ret (p, k, q) else kas_desc f p (k + 1) (q + 1))) ∧ _
    by_cases h : lt (p.getD k 0) (p.getD (k - 1) 0) = true
    · rw [if_pos h]
      by_cases hq : q > 0
      · rw [if_pos hq]
        have := desc_asked hn f _ (k + 1) 0 (allIn_rev hn hp (k - (q + 1)) k)
        exact ⟨⟨⟨hp _, hp _⟩, this.1⟩, this.2⟩
      · rw [if_neg hq]
        have := desc_asked hn f p (k + 1) 0 hp
        exact ⟨⟨⟨hp _, hp _⟩, this.1⟩, this.2⟩
    · rw [if_neg h]
      show (_ ∧ (_ ∧ Asked (Below2 n) lt (if lt (p.getD (k - 1) 0) (p.getD k 0) = true then (.ret (p, k, q) : KasT (Array Nat × Nat × Nat)) else kas_desc f p (k + 1) (q + 1)))) ∧ AllIn n (runT lt (if lt (p.getD (k - 1) 0) (p.getD k 0) = true then (.ret (p, k, q) : KasT (Array Nat × Nat × Nat)) else kas_desc f p (k + 1) (q + 1))).1
      by_cases h2 : lt (p.getD (k - 1) 0) (p.getD k 0) = true
      · rw [if_pos h2]; exact ⟨⟨⟨hp _, hp _⟩, ⟨hp _, hp _⟩, trivial⟩, hp⟩
      · rw [if_neg h2]
        have := desc_asked hn f p (k + 1) (q + 1) hp
        exact ⟨⟨⟨hp _, hp _⟩, ⟨hp _, hp _⟩, this.1⟩, this.2⟩
theorem tail3_asked (hn : 0 < n) (a b : Nat) {p : Array Nat} (hp : AllIn n p) : Asked (Below2 n) lt (kas_tail3 a b p) ∧ AllIn n (runT lt (kas_tail3 a b p)).2 := by
  unfold kas_tail3
  rw [runT_bind]
  exact ⟨asked_bind (asc_asked (allIn_rev hn hp 0 a) _ _) trivial, allIn_rev hn hp 0 a⟩
theorem descPart_asked (hn : 0 < n) (a b : Nat) {p : Array Nat} (hp : AllIn n p) : Asked (Below2 n) lt (kas_descPart a b p) ∧ AllIn n (runT lt (kas_descPart a b p)).2 := by
  unfold kas_descPart
  rw [runT_bind]
  have h1 := desc_asked (lt := lt) hn (b - (a + 1)) p (a + 1) 0 hp
  by_cases h : (runT lt (kas_desc (b - (a + 1)) p (a + 1) 0)).2.2 > 0
  · have h2 := tail3_asked (lt := lt) hn (runT lt (kas_desc (b - (a + 1)) p (a + 1) 0)).2.1 b (allIn_rev hn h1.2 ((runT lt (kas_desc (b - (a + 1)) p (a + 1) 0)).2.1 - ((runT lt (kas_desc (b - (a + 1)) p (a + 1) 0)).2.2 + 1)) (runT lt (kas_desc (b - (a + 1)) p (a + 1) 0)).2.1)
    refine ⟨asked_bind h1.1 ?_, ?_⟩
    · rw [if_pos h]; exact h2.1
    · rw [if_pos h]; exact h2.2
  · have h2 := tail3_asked (lt := lt) hn (runT lt (kas_desc (b - (a + 1)) p (a + 1) 0)).2.1 b h1.2
    refine ⟨asked_bind h1.1 ?_, ?_⟩
    · rw [if_neg h]; exact h2.1
    · rw [if_neg h]; exact h2.2
theorem count_asked (hn : 0 < n) (b : Nat) {p : Array Nat} (hp : AllIn n p) : Asked (Below2 n) lt (kas_count b p) ∧ AllIn n (runT lt (kas_count b p)).2 := by
  unfold kas_count
  rw [runT_bind]
  have h1 := asc_asked (lt := lt) hp (b - 1) 1
  generalize hm : runT lt (kas_asc p (b - 1) 1) = m
  by_cases e : (m == b) = true
  · refine ⟨asked_bind h1 ?_, ?_⟩
    · rw [hm, if_pos e]; trivial
    · rw [if_pos e]; exact hp
  · by_cases h : m > 1
    · by_cases c : lt (p.getD 0 0) (p.getD (m - 1) 0) = true
      · refine ⟨asked_bind h1 ?_, ?_⟩
        · rw [hm, if_neg e, if_pos h]; refine ⟨⟨hp _, hp _⟩, ?_⟩; dsimp only; rw [if_pos c]; trivial
        · rw [if_neg e, if_pos h]; show AllIn n (runT lt (if lt (p.getD 0 0) (p.getD (m - 1) 0) = true then (.ret (m, p) : KasT (Nat × Array Nat)) else kas_descPart m b (kas_rev p 0 m))).2; rw [if_pos c]; exact hp
      · have h2 := descPart_asked (lt := lt) hn m b (allIn_rev hn hp 0 m)
        refine ⟨asked_bind h1 ?_, ?_⟩
        · rw [hm, if_neg e, if_pos h]; refine ⟨⟨hp _, hp _⟩, ?_⟩; dsimp only; rw [if_neg c]; exact h2.1
        · rw [if_neg e, if_pos h]; show AllIn n (runT lt (if lt (p.getD 0 0) (p.getD (m - 1) 0) = true then (.ret (m, p) : KasT (Nat × Array Nat)) else kas_descPart m b (kas_rev p 0 m))).2; rw [if_neg c]; exact h2.2
    · have h2 := descPart_asked (lt := lt) hn m b hp
      refine ⟨asked_bind h1 ?_, ?_⟩
      · rw [hm, if_neg e, if_neg h]; exact h2.1
      · rw [if_neg e, if_neg h]; exact h2.2
theorem place_asked {p : Array Nat} (hp : AllIn n p) (k : Nat) : ∀ f l t, Asked (Below2 n) lt (kas_place p k f l t)
  | 0, _, _ => trivial
  | f + 1, l, t => by
    show Asked (Below2 n) lt (if l ≥ t then .ret l else .ask (p.getD k 0) (p.getD ((l + t) / 2) 0) fun c => if c = true then kas_place p k f l ((l + t) / 2) else kas_place p k f ((l + t) / 2 + 1) t)
    by_cases h : l ≥ t
    · rw [if_pos h]; trivial
    · rw [if_neg h]
      refine ⟨⟨hp _, hp _⟩, ?_⟩
      dsimp only
      by_cases c : lt (p.getD k 0) (p.getD ((l + t) / 2) 0) = true
      · rw [if_pos c]; exact place_asked hp k f _ _
      · rw [if_neg c]; exact place_asked hp k f _ _
theorem bin_asked (hn : 0 < n) : ∀ f (p : Array Nat) k, AllIn n p → Asked (Below2 n) lt (kas_bin f p k)
  | 0, _, _, _ => trivial
  | f + 1, p, k, hp => asked_bind (place_asked hp k _ _ _) (bin_asked hn f _ _ (allIn_bubble hn hp _ _))
theorem sort_asked (hn : 0 < n) : Asked (Below2 n) lt (kas_sort n) := by
  have hp : AllIn n (List.toArray (List.range n)) := fun x => by
    rw [Array.getD_eq_getD_getElem?]
    simp only [List.getElem?_toArray]
    cases h : (List.range n)[x]? with
    | none => exact hn
    | some v => exact List.mem_range.mp (List.mem_of_getElem? h)
  have h1 := count_asked (lt := lt) hn n hp
  unfold kas_sort
  refine asked_bind h1.1 ?_
  by_cases h : (runT lt (kas_count n (List.range n).toArray)).1 < n
  · rw [if_pos h]; exact bin_asked hn _ _ _ h1.2
  · rw [if_neg h]; trivial
end
theorem kas_of_run {α : Type} {P : Nat → Nat → Prop} {lt : Nat → Nat → Bool} {cmp : Nat → Nat → (Bool → Shared → Prop) → Shared → Prop} {s : Shared}
    (h : ∀ i j (C : Bool → Shared → Prop), P i j → C (lt i j) s → cmp i j C s) {Q : α → Shared → Prop} : ∀ {t : KasT α}, Asked P lt t → Q (runT lt t) s → t.kasWp cmp Q s
  | .ret _, _, hq => hq
  | .ask i j k, ha, hq => h i j _ ha.1 (kas_of_run h (t := k (lt i j)) ha.2 hq)
/-- the sort: place k holds the key with k keys below it -/
theorem sort_places {n : Nat} {key : Nat → Array UInt8} (hk : ∀ i j, i < n → j < n → key i = key j → i = j) (hn : 1 ≤ n) :
    (runT (fun i j => decide (rk n key i < rk n key j)) (kas_sort n)).size = n ∧ ∀ k, k < n → (runT (fun i j => decide (rk n key i < rk n key j)) (kas_sort n)).getD k 0 < n ∧ rk n key ((runT (fun i j => decide (rk n key i < rk n key j)) (kas_sort n)).getD k 0) = k := by
  obtain ⟨hg, hu⟩ := sort_run (r := rk n key) (rk_inj hk) hn
  have hin : ∀ k, k < n → (runT (ltR (rk n key)) (kas_sort n)).getD k 0 < n := fun k hk' => by
    have hs := hg.size
    have : (runT (ltR (rk n key)) (kas_sort n))[k]'(by omega) ∈ (List.range n).toArray := hg.perm.mem_iff.mp (Array.getElem_mem _)
    rw [Array.getD_eq_getD_getElem?, getElem?_pos _ k (by omega)]
    simpa using this
  refine ⟨hg.size, fun k hk' => ⟨hin k hk', ?_⟩⟩
  exact rising_id (f := fun k => rk n key ((runT (ltR (rk n key)) (kas_sort n)).getD k 0)) (fun k h => rk_lt _ (hin k h)) (fun i j a b => hu i j a b) k hk'

theorem slot_bytes_lt : Slot "bytes" "__lt__" "bytes.__lt__" :=
  .of (owner := "bytes") (n := "__lt__") (by rw [typeLookup_type, builtinLookup_eq_fast]; kernel_rfl) (by decide +kernel) (by decide +kernel) (by decide +kernel)
    (by first | exact .inl (by decide +kernel) | exact .inr (by decide +kernel)) (by rw [isSubtype_type]; kernel_rfl)
theorem entry_bytes_lt : entryFor table "bytes.__lt__" = some Builtin.«bytes.__lt__» := entryFor_of_tree (by kernel_rfl)
theorem args_bytes_lt_2 (a b : Value) : argsOk "bytes.__lt__" ⟨[a, b], []⟩ := by
  unfold argsOk; rw [signature?_of (id := "bytes.__lt__") (n := ['_', '_', 't', 'l', '_', '_']) (o := ['s', 'e', 't', 'y', 'b']) (by kernel_rfl) (by first | exact FB.owner_bytes | exact owner_bytes)]; kernel_rfl
section
variable {prog : Program} {w : World} {A : Around} {E : Value → Shared → Prop} {s : Shared} {x y : Array UInt8} {t u : Tok}
theorem oneLt_bytes {Q : Bool → Shared → Prop} (h : Q (bl x y) s) : wpAny (model prog w) A (oneLt' true (.bytes x t) (.bytes y u)) Q E s := by
  rw [oneLt'_eq]
  simp only [if_true]
  refine wpAny_bind (wpAny_cRoomFor_byValue rfl ?_)
  refine wpAny_bind (wpAny_callSpecialIfBound?_slot (typeIs_bytes s x t) slot_bytes_lt (wpAny_call_entry slot_bytes_lt (typeIs_bytes s x t) entry_bytes_lt ?_ (args_bytes_lt_2 _ _)))
  show wpAny _ _ (isInstance (.bytes y u) (.type "bytes") >>= fun r => _) _ _ s
  refine wpAny_bind (wpAny_isInstance (typeIs_bytes s y u) F.sub_bytes_bytes ?_)
  exact wpAny_pure ⟨_, rfl, wpAny_truthy_bool h⟩
/-- two made tuples of bytes and a number, the bytes' order first -/
theorem tup_lt {X Y : Addr} {ox oy : Obj} {i j : Int} {tx ty : Tok} {C : Bool → Shared → Prop} (hx : s.heap.get? X = some ox) (dx : ox.data = .seq #[.bytes x t, .int i tx] 0) (hy : s.heap.get? Y = some oy) (dy : oy.data = .seq #[.bytes y u, .int j ty] 0)
    (hij : x = y → i = j) (h : C (bl x y) s) : wpAny (model prog w) A (keyLt' (tuples' true) (.ref X) (.ref Y)) C (fun _ _ => False) s := by
  refine kat_lt hx dx hy dy (kat_cons (eqBool_bytes ?_))
  by_cases e : x = y
  · subst e
    have e2 : decide (x.toList = x.toList) = true := decide_eq_true rfl
    rw [e2]
    refine kat_yes (kat_cons (wpAny_eqBool_int ?_))
    rw [show (i == j) = true by rw [hij rfl]; simp]
    refine kat_yes (kat_nil ?_)
    rw [bl_irrefl] at h
    simpa using h
  · have e2 : decide (x.toList = y.toList) = false := decide_eq_false (fun q => e (by cases x; cases y; simpa using q))
    rw [e2]
    refine kat_no ?_
    show wpAny _ _ (oneLt' true _ _) _ _ _
    exact oneLt_bytes h
end
theorem zip_no_len : typeLookup (.type "zip") "__len__" = pure none := by rw [typeLookup_type, builtinLookup_eq_fast]; kernel_rfl
theorem zip_no_hint : typeLookup (.type "zip") "__length_hint__" = pure none := by rw [typeLookup_type, builtinLookup_eq_fast]; kernel_rfl
theorem list_sort_rev (a : Addr) : Builtin.«list.sort» ⟨[.ref a], [(Str.ofString "reverse", .bool false)]⟩ = Builtin.«list.sort» ⟨[.ref a], []⟩ := by rfl
theorem args_sort_rev (a : Value) : argsOk "list.sort" ⟨[a], [(Str.ofString "reverse", .bool false)]⟩ := by unfold argsOk; kernel_rfl
theorem args_sorted_rev (a : Value) : argsOk "sorted" ⟨[a], [(Str.ofString "reverse", .bool false)]⟩ := by unfold argsOk; kernel_rfl
section
variable {w : World} {p : Program} {loose : List Str} {mean : ExcName → Option Value} {mg mb : Str → Option Value} {dp un : Nat} {gd : Option (List Code)} {cn : Str} {cs : Scope} {a : Addr} {ccd : Value} {cl : List (Str × Addr)} {outer : List Env} {A₀ : Around} {base h₀ : Heap} {L : Addr} {m : Str → Option Value} {news rest : List (Addr × Obj)} {s : Shared} {Q E : Value → Shared → Prop}
theorem katTups_of {h : Heap} : ∀ {vs fs : List Value}, vs.length = fs.length → (∀ i, i < vs.length → ∃ a o xs n, vs.getD i .none = .ref a ∧ h.get? a = some o ∧ o.cls = .type "tuple" ∧ o.data = .seq xs n ∧ xs[0]? = some (fs.getD i .none)) → KatTups h vs fs
  | [], [], _, _ => trivial
  | [], _ :: _, e, _ => by simp at e
  | _ :: _, [], e, _ => by simp at e
  | v :: vs, f :: fs, e, hk => by
    refine ⟨?_, katTups_of (by simpa using e) fun i hi => ?_⟩
    · simpa using hk 0 (by simp)
    · have := hk (i + 1) (by simp; omega)
      simpa using this
set_option maxRecDepth 100000 in
theorem collect_zip {Q : List Value → Shared → Prop} {z TI TO i1 l c dx : Nat} {ol : Obj} {vs : List Value} {t t1 : Tok} (hk : cs.kind = .function) (hd : dp + 1 < recursionLimit) (hu : un + 50 < cLine)
    (nd : [z, TO, i1, c, dx].Nodup) (hr : ∀ q ∈ rest, q.1 ∉ [z, TO, i1, c, dx]) (hn : 1 ≤ vs.length) (hn1 : vs.length < 64)
    (mT : (TI, tupObj #[.ref i1, .ref c]) ∈ rest) (m1 : (l, ol) ∈ rest) (hol : ol.cls = .type "list") (hod : ∃ ep, ol.data = .seq vs.toArray ep)
    (C : Cx w p loose mean mg mb A₀ base outer h₀ L m s.heap ((z, zipObj .none (.bool false) TI TO) :: (TO, tupObj #[.none, .none]) :: (i1, liObj l (0 : Nat)) :: (c, cntObj dx 0 t t1) :: (dx, dictOf [] 0) :: rest))
    (hret : ∀ (h' : Heap) (tk' : Nat) (acc' : Array Value) (ents' : List (Addr × Obj)), s.toks ≤ tk' → TupsTo vs acc' ents' vs.length → Cx w p loose mean mg mb A₀ base outer h₀ L m h' (ents' ++ rest) → Q acc'.toList { s with heap := h', toks := tk' }) :
    wpAny (model PySem.Challenge.pw_ij0047_01 w) (ktrTop dp un gd cn cs L a ccd cl outer) (collect (.ref z)) Q E s := by
  have ltA := C.lt
  unfold collect
  refine wpAny_bind (wpAny_runValue (codeAny_builtin entry_proto_collect' ?_))
  show wpAny _ _ (do again (.builtin "list.__iadd__" ⟨[← newList [], .ref z], []⟩)) _ _ s
  refine wpAny_bind (wpAny_newList (wpAny_pure ⟨Code.quiet_builtin _ (by decide +kernel), codeAny_builtin entry_list_iadd' ?_⟩))
  show wpAny _ _ (Builtin.List.listExtendWith (.ref s.heap.objs.size) (.ref z) (.ref s.heap.objs.size)) _ _ { s with heap := s.heap.push (seqObj "list" #[] 0) }
  have C₁ := C.push (seqObj "list" #[] 0)
  generalize hSd : s.heap.objs.size = S at *
  have hzS : S ≠ z := Nat.ne_of_gt (ltA _ (.head _))
  unfold Builtin.List.listExtendWith
  have hz₁ := (C₁.N _ (.tail _ (.head _))).1
  refine wpAny_bind (wpAny_typeOf (T := "zip") ⟨_, hz₁, rfl⟩ ?_)
  have h1 : Builtin.List.listSameRef (.ref S) (.ref z) = false := by simp [Builtin.List.listSameRef, hzS]
  rw [h1]
  refine wpAny_ite_split (fun hab => absurd hab (by decide)) (fun _ => ?_)
  refine wpAny_bind (wpAny_pyIter_zip hz₁ ?_)
  refine wpAny_bind (wpAny_holding ?_)
  unfold Builtin.List.listLengthHint
  refine wpAny_bind (wpAny_specialOf (T := "zip") ⟨_, hz₁, rfl⟩ zip_no_len ?_)
  show wpAny _ _ (specialOf (Value.ref z) (Str.ofString "__length_hint__") >>= _) _ _ _
  refine wpAny_bind (wpAny_specialOf (T := "zip") ⟨_, hz₁, rfl⟩ zip_no_hint ?_)
  refine wpAny_pure ?_
  refine wpAny_ite_split (fun _ => ?_) (fun hab => absurd rfl hab)
  refine wpAny_bind (wpAny_rule ?_)
  refine wpAny_bind ?_
  show wpAny _ _ (updateSeq S (·.push .none) >>= fun _ => updateSeq S (·.pop)) _ _ _
  have ne : ∀ q ∈ (z, zipObj .none (.bool false) TI TO) :: (TO, tupObj #[.none, .none]) :: (i1, liObj l (0 : Nat)) :: (c, cntObj dx 0 t t1) :: (dx, dictOf [] 0) :: rest, q.1 ≠ S := fun q hq => Nat.ne_of_lt (ltA q hq)
  have hS₁ := (C₁.N _ (.head _)).1
  refine wpAny_bind (wpAny_updateSeq hS₁ rfl ?_)
  have hS₂ := Heap.get?_update_self (Obj.mapSeq (·.push Value.none)) hS₁ rfl
  have C₂ := C₁.setHead ne (Heap.SameBut.update ..) hS₂
  refine wpAny_updateSeq (hz := by seq_fits) hS₂ rfl ?_
  have hS₃ := Heap.get?_update_self (Obj.mapSeq (·.pop)) hS₂ rfl
  have C₃ := C₂.setHead ne (Heap.SameBut.update ..) hS₃
  refine wpAny_pure ⟨plainId_quiet PySem.F.plain_extend_loop _, ?_⟩
  have hrS : ∀ q ∈ rest, q.1 ∉ [S, z, TO, i1, c, dx] := fun q hq hm => by
    rcases List.mem_cons.mp hm with e | hm
    · exact ne q (.tail _ (.tail _ (.tail _ (.tail _ (.tail _ hq))))) e
    · exact hr q hq hm
  have ne' := ne
  simp only [List.forall_mem_cons] at ne'
  obtain ⟨a1, a2, a3, a4, a5, _⟩ := ne'
  have ndS : [S, z, TO, i1, c, dx].Nodup := by
    rw [List.nodup_cons]
    refine ⟨?_, nd⟩
    simp only [List.mem_cons, List.not_mem_nil, or_false, not_or]
    exact ⟨Ne.symm a1, Ne.symm a2, Ne.symm a3, Ne.symm a4, Ne.symm a5⟩
  refine zip_loop hk hd (by omega) ndS hrS hn hn1 mT m1 hol hod vs.length 0 _ #[] _ [] .none (.bool false) .none .none t (by omega) C₃ (fun _ hq => nomatch hq) ⟨rfl, fun i hi => by omega⟩ (.inl ⟨rfl, rfl⟩) fun h' tk' c' acc' ents' htk hT hS C₄ => ?_
  show wpAny _ _ (do
      let o ← load S
      match o.data with
      | .seq xs _ => pure xs.toList
      | _ => unsupported "internal:collect") Q E _
  refine wpAny_bind (wpAny_load (C₄.N _ (.head _)).1 ?_)
  exact wpAny_pure (hret h' tk' acc' ents' htk hT (C₄.sub fun q hq => .tail _ hq))
end

section
variable {w : World} {p : Program} {loose : List Str} {mean : ExcName → Option Value} {mg mb : Str → Option Value} {dp un : Nat} {gd : Option (List Code)} {cn : Str} {cs : Scope} {a : Addr} {ccd : Value} {cl : List (Str × Addr)} {outer : List Env} {A₀ : Around} {base h₀ : Heap} {L : Addr} {m : Str → Option Value} {news rest : List (Addr × Obj)} {s : Shared} {Q E : Value → Shared → Prop}
theorem map_getD_arr {p : Array Nat} {f : Nat → Value} {d : Value} {k : Nat} (hk : k < p.size) : (p.toList.map f).getD k d = f (p.getD k 0) := by
  rw [List.getD, List.getElem?_map, Array.getElem?_toList, Array.getD_eq_getD_getElem?, getElem?_pos p k hk]
  rfl
/-- the order in which the sort leaves the keys -/
noncomputable def sigma (n : Nat) (key : Nat → Array UInt8) (k : Nat) : Nat := (runT (fun i j => decide (rk n key i < rk n key j)) (kas_sort n)).getD k 0
theorem TupsTo.get {vs : List Value} {acc : Array Value} {ents : List (Addr × Obj)} {n : Nat} (h : TupsTo vs acc ents n) {i : Nat} (hi : i < n) : ∃ (T : Nat) (t : Tok), acc.toList.getD i .none = .ref T ∧ (T, tupObj #[vs.getD i .none, .int i t]) ∈ ents := by
  obtain ⟨T, t, e, m⟩ := h.2 i hi
  refine ⟨T, t, ?_, m⟩
  rw [List.getD, Array.getElem?_toList, e]
  rfl
set_option maxRecDepth 100000 in
theorem sorted_zip {z TI TO i1 l c dx : Nat} {ol : Obj} {ks : List (Array UInt8 × Tok)} {t t1 : Tok} (hk : cs.kind = .function) (hd : dp + 1 < recursionLimit) (hu : un + 60 < cLine)
    (nd : [z, TO, i1, c, dx].Nodup) (hr : ∀ q ∈ rest, q.1 ∉ [z, TO, i1, c, dx]) (hn : 2 ≤ ks.length) (hn1 : ks.length < 64)
    (hkeys : ∀ i j, i < ks.length → j < ks.length → (ks.getD i (#[], 0)).1 = (ks.getD j (#[], 0)).1 → i = j)
    (mT : (TI, tupObj #[.ref i1, .ref c]) ∈ rest) (m1 : (l, ol) ∈ rest) (hol : ol.cls = .type "list") (hod : ∃ ep, ol.data = .seq (ks.map fun p => Value.bytes p.1 p.2).toArray ep)
    (C : Cx w p loose mean mg mb A₀ base outer h₀ L m s.heap ((z, zipObj .none (.bool false) TI TO) :: (TO, tupObj #[.none, .none]) :: (i1, liObj l (0 : Nat)) :: (c, cntObj dx 0 t t1) :: (dx, dictOf [] 0) :: rest))
    (hret : ∀ (h' : Heap) (tk' D e : Nat) (out : List Value) (ents : List (Addr × Obj)), s.toks ≤ tk' → (∀ q ∈ ents, q.1 < D) → (∀ q ∈ rest, q ∈ ents) → out.length = ks.length →
      (∀ k, k < ks.length → ∃ (T : Nat) (u : Tok), out.getD k .none = .ref T ∧ (T, tupObj #[.bytes (ks.getD (sigma ks.length (fun i => (ks.getD i (#[], 0)).1) k) (#[], 0)).1 (ks.getD (sigma ks.length (fun i => (ks.getD i (#[], 0)).1) k) (#[], 0)).2, .int (sigma ks.length (fun i => (ks.getD i (#[], 0)).1) k : Nat) u]) ∈ ents) →
      Cx w p loose mean mg mb A₀ base outer h₀ L m h' ((D, listOf out.toArray e) :: ents) → Q (.ref D) { s with heap := h', toks := tk' }) :
    wpAny (model PySem.Challenge.pw_ij0047_01 w) (ktrTop dp un gd cn cs L a ccd cl outer) (call (.builtin "sorted") [.ref z] [(Str.ofString "reverse", .bool false)]) Q E s := by
  refine call_function_entry_kw kind_sorted plain_sorted entry_sorted (args_sorted_rev _) ?_
  unfold Builtin.«sorted»
  refine wpAny_bind (m := checkCount "sorted" 1 1 _) (wpAny_pure ?_)
  refine wpAny_bind (collect_zip (un := un + 1) (vs := ks.map fun p => Value.bytes p.1 p.2) hk hd (by omega) nd hr (by simp; omega) (by simp; omega) mT m1 hol hod C fun h₁ tk₁ acc ents htk hT C₁ => ?_)
  have hlen : (ks.map fun p => Value.bytes p.1 p.2).length = ks.length := by simp
  rw [hlen] at hT
  have hal : acc.toList.length = ks.length := by rw [Array.length_toList, hT.1]
  refine wpAny_bind (wpAny_newList ?_ (by rw [sizeLine_eq]; omega))
  have C₂ := C₁.push (listOf acc.toList.toArray 0)
  have lt₁ := C₁.lt
  generalize hDd : h₁.objs.size = D at *
  have ne₁ : ∀ q ∈ ents ++ rest, q.1 ≠ D := fun q hq => Nat.ne_of_lt (lt₁ q hq)
  have hD := C₂.N _ (.head _)
  refine wpAny_bind (wpAny_holding (wpAny_call_entry_kw slot_list_sort ⟨_, hD.1, rfl⟩ entry_list_sort ?body (args_sort_rev _)))
  case body =>
    show wpAny (model PySem.Challenge.pw_ij0047_01 w) _ (Builtin.«list.sort» ⟨[.ref D], [(Str.ofString "reverse", .bool false)]⟩) _ _ _
    rw [list_sort_rev]
    refine kat_list_sort (vs := acc.toList) C₂.F (fun q hq => C₂.N q (.tail _ hq)) hD.1 hD.2.1 hD.2.2 ne₁ (by omega) (by omega) fun e1 h₃ F₃ N₃ => ?_
    have tup : ∀ i, i < ks.length → ∃ (T : Nat) (u : Tok), acc.toList.getD i .none = .ref T ∧ h₃.get? T = some (tupObj #[.bytes (ks.getD i (#[], 0)).1 (ks.getD i (#[], 0)).2, .int i u]) ∧ (T, tupObj #[.bytes (ks.getD i (#[], 0)).1 (ks.getD i (#[], 0)).2, .int i u]) ∈ ents := fun i hi => by
      obtain ⟨T, u, e, hm⟩ := hT.get hi
      have e2 : (ks.map fun p => Value.bytes p.1 p.2).getD i .none = .bytes (ks.getD i (#[], 0)).1 (ks.getD i (#[], 0)).2 := by
        simp [List.getD, List.getElem?_eq_getElem hi]
      rw [e2] at hm
      exact ⟨T, u, e, (N₃ _ (.tail _ (List.mem_append_left _ hm))).1, hm⟩
    refine kat_kind (fs := ks.map fun p => Value.bytes p.1 p.2) (T := .type "bytes") (katTups_of (by rw [hal, hlen]) fun i hi => ?_) (by rw [hlen]; omega) (fun v hv => ?_) (by decide) ?_
    · obtain ⟨T, u, e, hg, _⟩ := tup i (by omega)
      exact ⟨T, _, _, _, e, hg, rfl, rfl, by simp [List.getD, List.getElem?_eq_getElem (show i < ks.length by omega)]⟩
    · obtain ⟨p, _, rfl⟩ := List.mem_map.mp hv
      exact Looks.of_pure rfl
    show KasT.kasWp (kas_ask _ w _ (tuples' true) acc.toList) (kas_sort acc.toList.length) _ _
    rw [hal]
    refine kas_of_run (P := Below2 ks.length) (lt := fun i j => decide (rk ks.length (fun i => (ks.getD i (#[], 0)).1) i < rk ks.length (fun i => (ks.getD i (#[], 0)).1) j)) (fun i j C hij hC => ?_) (sort_asked (by omega)) ?_
    · obtain ⟨T, u, e, hg, _⟩ := tup i hij.1
      obtain ⟨T', u', e', hg', _⟩ := tup j hij.2
      unfold kas_ask
      rw [e, e']
      refine tup_lt hg rfl hg' rfl (fun q => by rw [hkeys i j hij.1 hij.2 q]) ?_
      rw [rk_iff (n := ks.length) (key := fun i => (ks.getD i (#[], 0)).1) hkeys hij.1 hij.2]
      exact hC
    · obtain ⟨hs, hp⟩ := sort_places (n := ks.length) (key := fun i => (ks.getD i (#[], 0)).1) hkeys (by omega)
      refine KasFin.intro F₃ N₃ (by k_updF) fun h₄ c₄ F₄ N₄ => ?_
      refine ⟨_, rfl, wpAny_pure ⟨_, rfl, ?_⟩⟩
      refine hret h₄ tk₁ D c₄ _ (ents ++ rest) htk lt₁ (fun q hq => List.mem_append_right _ hq) (by rw [List.length_map, Array.length_toList, hs]) (fun k hk' => ?_) ⟨C₂.B, F₄, C₂.X, N₄, C₂.T, C₂.XB, C₂.TB⟩
      obtain ⟨h1, h2⟩ := hp k hk'
      obtain ⟨T, u, e, _, hm⟩ := tup _ h1
      refine ⟨T, u, ?_, List.mem_append_left _ hm⟩
      rw [← e]
      exact map_getD_arr (f := fun i => acc.toList.getD i .none) (Nat.lt_of_lt_of_eq hk' hs.symm)
end

noncomputable abbrev covFd (v : Value) (t : Str) : FuncData := fnOf (Str.ofString "covariance") (Str.ofString "covariance") (parOf (topSt 19)) (redocL t (sansDoc (bodyOf (topSt 19)))) (scOf (topSt 19)) .none .none v (.str (Str.ofString "cpy313.statistics") 785) none (.ref 334) .none
noncomputable abbrev corFd (v : Value) (t : Str) : FuncData := fnOf (Str.ofString "correlation") (Str.ofString "correlation") (parOf (topSt 20)) (redocL t (sansDoc (bodyOf (topSt 20)))) (scOf (topSt 20)) .none (.ref 336) v (.str (Str.ofString "cpy313.statistics") 785) none (.ref 340) .none
noncomputable abbrev linFd (v : Value) (t : Str) : FuncData := fnOf (Str.ofString "linear_regression") (Str.ofString "linear_regression") (parOf (topSt 22)) (redocL t (sansDoc (bodyOf (topSt 22)))) (scOf (topSt 22)) .none (.ref 413) v (.str (Str.ofString "cpy313.statistics") 785) none (.ref 417) .none
noncomputable abbrev rankFd (v : Value) (t : Str) : FuncData := fnOf (Str.ofString "_rank") (Str.ofString "_rank") (parOf (topSt 17)) (redocL t (sansDoc (bodyOf (topSt 17)))) (scOf (topSt 17)) .none (.ref 314) v (.str (Str.ofString "cpy313.statistics") 785) none (.ref 320) .none
section
variable {P : Params} {s : Shared}
theorem kmDict (P : Params) : nsIn (KM P) 314 (Str.ofString "key") = some (some .none) ∧ nsIn (KM P) 314 (Str.ofString "reverse") = some (some (.bool false)) ∧ nsIn (KM P) 314 (Str.ofString "ties") = some (some (.str (Str.ofString "average") 787)) ∧ nsIn (KM P) 314 (Str.ofString "start") = some (some (.int 1 788))
    ∧ nsIn (KM P) 336 (Str.ofString "method") = some (some (.str (Str.ofString "linear") 840)) ∧ nsIn (KM P) 413 (Str.ofString "proportional") = some (some (.bool false)) := by
  refine ⟨?_, ?_, ?_, ?_, ?_, ?_⟩ <;> rfl
set_option maxRecDepth 100000 in
set_option maxHeartbeats 4000000 in
theorem rank_binds0 (X : (KM P).In s.heap) (x : Value) (v : Value) (t : Str) : BindsTo s (rankFd v t) ⟨[x], []⟩ [(Str.ofString "data", x), (Str.ofString "key", .none), (Str.ofString "reverse", .bool false), (Str.ofString "ties", .str (Str.ofString "average") 787), (Str.ofString "start", .int 1 788)] := by
  intro M A E Q hq
  obtain ⟨k1, k2, k3, k4, k5, k6⟩ := kmDict P
  obtain ⟨hp, g, d, tk, os⟩ := s
  unfold bindArgs
  refine wpAny_bind ?_
  show wpAny _ _ (pure _) _ _ _
  refine wpAny_pure ?_
  show wpAny _ _ (forIn _ _ _ >>= _) _ _ _
  refine wpAny_bind ?_
  show wpAny _ _ (pure _) _ _ _
  refine wpAny_pure ?_
  show wpAny _ _ (forIn _ _ _ >>= _) _ _ _
  refine wpAny_bind ?_
  iterate 4
    show wpAny _ _ (_ >>= _) _ _ _
    refine wpAny_bind ?_
    show wpAny _ _ (nsGet (314 : Nat) _ >>= _) _ _ _
    first | refine wpAny_bind ((looks_nsIn X k1).here ?_) | refine wpAny_bind ((looks_nsIn X k2).here ?_) | refine wpAny_bind ((looks_nsIn X k3).here ?_) | refine wpAny_bind ((looks_nsIn X k4).here ?_)
    show wpAny _ _ (pure _) _ _ _
    refine wpAny_pure ?_
  show wpAny _ _ (pure _) _ _ _
  refine wpAny_pure ?_
  show wpAny _ _ (pure _) _ _ _
  exact wpAny_pure hq
set_option maxRecDepth 100000 in
set_option maxHeartbeats 4000000 in
theorem rank_binds1 (X : (KM P).In s.heap) (x y : Value) (v : Value) (t : Str) : BindsTo s (rankFd v t) ⟨[x], [(Str.ofString "start", y)]⟩ [(Str.ofString "data", x), (Str.ofString "key", .none), (Str.ofString "reverse", .bool false), (Str.ofString "ties", .str (Str.ofString "average") 787), (Str.ofString "start", y)] := by
  intro M A E Q hq
  obtain ⟨k1, k2, k3, k4, k5, k6⟩ := kmDict P
  obtain ⟨hp, g, d, tk, os⟩ := s
  unfold bindArgs
  refine wpAny_bind ?_
  show wpAny _ _ (pure _) _ _ _
  refine wpAny_pure ?_
  show wpAny _ _ (forIn _ _ _ >>= _) _ _ _
  refine wpAny_bind ?_
  show wpAny _ _ (pure _) _ _ _
  refine wpAny_pure ?_
  show wpAny _ _ (forIn _ _ _ >>= _) _ _ _
  refine wpAny_bind ?_
  iterate 3
    show wpAny _ _ (_ >>= _) _ _ _
    refine wpAny_bind ?_
    show wpAny _ _ (nsGet (314 : Nat) _ >>= _) _ _ _
    first | refine wpAny_bind ((looks_nsIn X k1).here ?_) | refine wpAny_bind ((looks_nsIn X k2).here ?_) | refine wpAny_bind ((looks_nsIn X k3).here ?_) | refine wpAny_bind ((looks_nsIn X k4).here ?_)
    show wpAny _ _ (pure _) _ _ _
    refine wpAny_pure ?_
  show wpAny _ _ (pure _) _ _ _
  refine wpAny_pure ?_
  show wpAny _ _ (pure _) _ _ _
  exact wpAny_pure hq
set_option maxRecDepth 100000 in
set_option maxHeartbeats 4000000 in
theorem cor_binds (X : (KM P).In s.heap) (x y z : Value) (v : Value) (t : Str) : BindsTo s (corFd v t) ⟨[x, y], [(Str.ofString "method", z)]⟩ [(Str.ofString "x", x), (Str.ofString "y", y), (Str.ofString "method", z)] := BindsTo.of_eq (by kernel_rfl)
set_option maxRecDepth 100000 in
set_option maxHeartbeats 4000000 in
theorem lin_binds (X : (KM P).In s.heap) (x y : Value) (v : Value) (t : Str) : BindsTo s (linFd v t) ⟨[x, y], []⟩ [(Str.ofString "x", x), (Str.ofString "y", y), (Str.ofString "proportional", .bool false)] := by
  intro M A E Q hq
  obtain ⟨k1, k2, k3, k4, k5, k6⟩ := kmDict P
  obtain ⟨hp, g, d, tk, os⟩ := s
  unfold bindArgs
  refine wpAny_bind ?_
  show wpAny _ _ (pure _) _ _ _
  refine wpAny_pure ?_
  show wpAny _ _ (forIn _ _ _ >>= _) _ _ _
  refine wpAny_bind ?_
  show wpAny _ _ (pure _) _ _ _
  refine wpAny_pure ?_
  show wpAny _ _ (forIn _ _ _ >>= _) _ _ _
  refine wpAny_bind ?_
  show wpAny _ _ (_ >>= _) _ _ _
  refine wpAny_bind ?_
  show wpAny _ _ (nsGet (413 : Nat) _ >>= _) _ _ _
  refine wpAny_bind ((looks_nsIn X k6).here ?_)
  show wpAny _ _ (pure _) _ _ _
  refine wpAny_pure ?_
  show wpAny _ _ (pure _) _ _ _
  refine wpAny_pure ?_
  show wpAny _ _ (pure _) _ _ _
  exact wpAny_pure hq
set_option maxRecDepth 100000 in
set_option maxHeartbeats 4000000 in
theorem cov_binds (X : (KM P).In s.heap) (x y : Value) (v : Value) (t : Str) : BindsTo s (covFd v t) ⟨[x, y], []⟩ [(Str.ofString "x", x), (Str.ofString "y", y)] := BindsTo.of_eq (by kernel_rfl)
end

section
variable {w : World} {p : Program} {loose : List Str} {mean : ExcName → Option Value} {mg mb : Str → Option Value} {dp un : Nat} {gd : Option (List Code)} {cn : Str} {cs : Scope} {a : Addr} {ccd : Value} {cl : List (Str × Addr)} {outer : List Env} {A₀ : Around} {base h₀ : Heap} {L : Addr} {m : Str → Option Value} {news rest : List (Addr × Obj)} {s : Shared} {Q E : Value → Shared → Prop}
/-- what the groups are made of: the table's length, its keys, their tuples -/
structure Tab (n D dk tp kf : Nat) (ol : Obj) (t0 : Tok) (vs : Array Value) (κ : Nat → Array UInt8 × Tok) (o : Nat → Nat) (pos : Nat → Value) (R : List (Addr × Obj)) : Prop where
  m1 : (kf, igObj dk tp) ∈ R
  m2 : (dk, dictOf [] 0) ∈ R
  m3 : (tp, tupObj #[.int 0 t0]) ∈ R
  m4 : ∀ j, j < n → (o j, tupObj #[.bytes (κ j).1 (κ j).2, pos j]) ∈ R
  m5 : (D, ol) ∈ R
  hol : ol.cls = .type "list"
  hod : ∃ ep, ol.data = .seq vs ep
  item : ∀ j, j < n → vs[j]? = some (.ref (o j))
  last : vs[n]? = none
  tok : ∀ j, j < n → (κ j).2 ≠ 0
  ne1 : ∀ i j, i < n → j < n → i ≠ j → (κ i).1 ≠ (κ j).1
  ne2 : ∀ i j, i < n → j < n → i ≠ j → (κ i).2 ≠ (κ j).2
theorem Tab.mono {n D dk tp kf : Nat} {ol : Obj} {t0 : Tok} {vs : Array Value} {κ : Nat → Array UInt8 × Tok} {o : Nat → Nat} {pos : Nat → Value} {R R' : List (Addr × Obj)} (T : Tab n D dk tp kf ol t0 vs κ o pos R) (h : ∀ q ∈ R, q ∈ R') : Tab n D dk tp kf ol t0 vs κ o pos R' :=
  ⟨h _ T.m1, h _ T.m2, h _ T.m3, fun j hj => h _ (T.m4 j hj), h _ T.m5, T.hol, T.hod, T.item, T.last, T.tok, T.ne1, T.ne2⟩
noncomputable def GS (n D dG it kf : Nat) (κ : Nat → Array UInt8 × Tok) (o : Nat → Nat) (j : Nat) (og oi : Obj) : Prop :=
  (j = 0 ∧ 0 < n ∧ oi = liObj D (0 : Nat) ∧ ∃ cg ck cv hcv tk tn, og = gbObj dG cg ck cv (.bool false) hcv (.bool false) (.ref it) (.ref kf) (.int 0 tn) tk) ∨
  (1 ≤ j ∧ j < n ∧ oi = liObj D (j + 1 : Nat) ∧ ∃ cg tn, og = gbObj dG cg (.bytes (κ j).1 (κ j).2) (.ref (o j)) (.bool true) (.bool true) (.bool true) (.ref it) (.ref kf) (.int j tn) (.bytes (κ (j - 1)).1 (κ (j - 1)).2)) ∨
  (j = n ∧ (∃ i : Nat, oi = liDead i) ∧ ∃ cg ck cv hcv htk ser tk, og = gbObj dG cg ck cv (.bool false) hcv htk (.ref it) (.ref kf) ser tk)
theorem GS.obj {n D dG it kf : Nat} {κ : Nat → Array UInt8 × Tok} {o : Nat → Nat} {j : Nat} {og oi : Obj} (h : GS n D dG it kf κ o j og oi) : ∃ sl, og = ⟨.ref 167, some dG, .plain, sl⟩ := by
  rcases h with ⟨_, _, _, _, _, _, _, _, _, rfl⟩ | ⟨_, _, _, _, _, rfl⟩ | ⟨_, _, _, _, _, _, _, _, _, rfl⟩ <;> exact ⟨_, rfl⟩
set_option maxRecDepth 100000 in
theorem gs_next {n D dk tp kf G dG it j : Nat} {ol og oi : Obj} {t0 : Tok} {vs : Array Value} {κ : Nat → Array UInt8 × Tok} {o : Nat → Nat} {pos : Nat → Value} (TB : Tab n D dk tp kf ol t0 vs κ o pos rest) (hs : GS n D dG it kf κ o j og oi) (hj : j < n) (hn : n < 64)
  (C : Cx w p loose mean mg mb A₀ base outer h₀ L m s.heap ((G, og) :: (dG, dictOf [] 0) :: (it, oi) :: rest)) (hk : cs.kind = .function) (hd : dp + 3 < recursionLimit) (hu : un + 24 < cLine)
  (n1 : G ≠ dG) (n2 : G ≠ it) (n3 : dG ≠ it) (r1 : ∀ q ∈ rest, q.1 ≠ G) (r2 : ∀ q ∈ rest, q.1 ≠ it)
  (hret : ∀ (h' : Heap) (tk' pr gr dg : Nat) (u1 u2 u3 : Tok), s.toks ≤ tk' → Cx w p loose mean mg mb A₀ base outer h₀ L m h' ((pr, tupObj #[.bytes (κ j).1 (κ j).2, .ref gr]) :: (gr, grObj dg (.int (j + 1) u1) (.ref G) (.bytes (κ j).1 (κ j).2)) :: (dg, dictOf [] 0) :: (G, gbObj dG (.int (j + 1) u2) (.bytes (κ j).1 (κ j).2) (.ref (o j)) (.bool true) (.bool true) (.bool true) (.ref it) (.ref kf) (.int (j + 1) u3) (.bytes (κ j).1 (κ j).2)) :: (dG, dictOf [] 0) :: (it, liObj D (j + 1 : Nat)) :: rest) → Q (.ref pr) { s with heap := h', toks := tk' }) :
  wpAny (model PySem.Challenge.pw_ij0047_01 w) (ktrTop dp un gd cn cs L a ccd cl outer) (call (.ref 163) [.ref G]) Q E s := by
  rcases hs with ⟨rfl, h0, rfl, cg, ck, cv, hcv, tk, tn, rfl⟩ | ⟨h1, h2, rfl, cg, tn, rfl⟩ | ⟨h1, _⟩
  · exact gnext_first C hk hd hu n1 n2 n3 r1 r2 (by omega) (by omega) TB.m1 TB.m2 TB.m3 (TB.m4 0 h0) TB.m5 TB.hol TB.hod (TB.item 0 h0) hret
  · exact gnext_later C hk hd hu n1 (List.forall_mem_cons.2 ⟨n2.symm, r1⟩) (by omega) (by omega) (TB.ne1 _ _ (by omega) hj (by omega)) (TB.tok _ (by omega)) (TB.tok _ hj) (TB.ne2 _ _ (by omega) hj (by omega)) hret
  · omega
set_option maxRecDepth 100000 in
theorem gs_end {n D G dG it kf : Nat} {og oi : Obj} {κ : Nat → Array UInt8 × Tok} {o : Nat → Nat} (hs : GS n D dG it kf κ o n og oi) (h0 : 0 < n)
  (C : Cx w p loose mean mg mb A₀ base outer h₀ L m s.heap ((G, og) :: (dG, dictOf [] 0) :: (it, oi) :: rest)) (hk : cs.kind = .function) (hd : dp + 3 < recursionLimit) (hu : un + 24 < cLine)
  (n1 : G ≠ dG) (n2 : G ≠ it) (n3 : dG ≠ it) (r1 : ∀ q ∈ rest, q.1 ≠ G) (r2 : ∀ q ∈ rest, q.1 ≠ it)
  (hexc : ∀ (g G₂ h' : Heap) (tk' e t : Nat), KtsTurn (outer.filterMap (·.frame)) h₀ g → Fr g L G₂ m → RaisedS base G₂ (envX cn cs L a ccd cl :: outer) e (.type "StopIteration") t [] rest h' → G₂.UpToSlots h' → Below A₀ base outer g → s.toks ≤ tk' → E (.ref e) { s with heap := h', toks := tk' }) :
  wpAny (model PySem.Challenge.pw_ij0047_01 w) (ktrTop dp un gd cn cs L a ccd cl outer) (call (.ref 163) [.ref G]) Q E s := by
  rcases hs with ⟨rfl, h1, _⟩ | ⟨h1, h2, _⟩ | ⟨_, ⟨i, rfl⟩, cg, ck, cv, hcv, htk, ser, tk, rfl⟩
  · omega
  · omega
  · exact gnext_end C hk hd hu n1 n2 n3 r1 r2 (.inr ⟨i, rfl⟩) hexc
set_option maxRecDepth 100000 in
theorem gs_list {n D dk tp kf G dG gr dg it j : Nat} {ol : Obj} {t0 u1 u2 : Tok} {ser : Value} {vs : Array Value} {κ : Nat → Array UInt8 × Tok} {o : Nat → Nat} {pos : Nat → Value} (TB : Tab n D dk tp kf ol t0 vs κ o pos rest) (hj : j < n)
  {u3 : Tok} (hser : ser = .int (j + 1) u3) (C : Cx w p loose mean mg mb A₀ base outer h₀ L m s.heap ((G, gbObj dG (.int (j + 1) u2) (.bytes (κ j).1 (κ j).2) (.ref (o j)) (.bool true) (.bool true) (.bool true) (.ref it) (.ref kf) ser (.bytes (κ j).1 (κ j).2)) :: (dG, dictOf [] 0) :: (it, liObj D (j + 1 : Nat)) :: rest)) (hk : cs.kind = .function) (hd : dp + 3 < recursionLimit) (hu : un + 40 < cLine)
  (n1 : G ≠ dG) (n2 : G ≠ it) (n3 : dG ≠ it) (r1 : ∀ q ∈ rest, q.1 ≠ G) (r2 : ∀ q ∈ rest, q.1 ≠ it) (m1 : (gr, grObj dg (.int (j + 1) u1) (.ref G) (.bytes (κ j).1 (κ j).2)) ∈ rest) (m2 : (dg, dictOf [] 0) ∈ rest)
  (hret : ∀ (g h' : Heap) (tk' S c : Nat) (og oi : Obj), GS n D dG it kf κ o (j + 1) og oi → KtsTurn (outer.filterMap (·.frame)) h₀ g → s.toks ≤ tk' → (∀ q ∈ rest, q.1 < S) → G < S → dG < S → it < S → Cx w p loose mean mg mb A₀ base outer g L m h' ((S, listOf #[.ref (o j)] c) :: (G, og) :: (dG, dictOf [] 0) :: (it, oi) :: rest) → Q (.ref S) { s with heap := h', toks := tk' }) :
  wpAny (model PySem.Challenge.pw_ij0047_01 w) (ktrTop dp un gd cn cs L a ccd cl outer) (call (.type "list") [.ref gr]) Q E s := by
  subst hser
  by_cases hl : j + 1 < n
  · exact list_gr_some C hk hd hu n1 n2 n3 r1 r2 m1 m2 (TB.ne1 _ _ hj hl (by omega)) (TB.tok _ hj) (TB.tok _ hl) (TB.ne2 _ _ hj hl (by omega)) TB.m1 TB.m2 TB.m3 (TB.m4 _ hl) TB.m5 TB.hol TB.hod (TB.item _ hl)
      fun g h' tk' S c KT htk lt l1 l2 l3 C' => hret g h' tk' S c _ _ (.inr (.inl ⟨by omega, hl, rfl, _, _, by push_cast; rfl⟩)) KT htk lt l1 l2 l3 C'
  · have e : j + 1 = n := by omega
    refine list_gr_none C hk hd hu n1 n2 n3 r1 r2 m1 m2 (TB.tok _ hj) (.inl ⟨D, ol, j + 1, vs, rfl, TB.m5, TB.hol, TB.hod, by rw [e]; exact TB.last⟩)
      fun g h' tk' S c i KT htk lt l1 l2 l3 C' => hret g h' tk' S c _ _ (.inr (.inr ⟨e, ⟨i, rfl⟩, _, _, _, _, _, _, _, rfl⟩)) KT htk lt l1 l2 l3 C'
end

section
variable {prog : Program} {w : World} {A : Around} {env : Env} {E : Value → Shared → Prop} {Q : Flow → Shared → Prop}
set_option backward.match.sparseCases false in
noncomputable def forTarget : Stmt → Expr
  | .For (target := t) .. => t
  | _ => .Name (Str.ofString "") ⟨0, 0, 0, 0⟩
set_option backward.match.sparseCases false in
noncomputable def forBody : Stmt → List Stmt
  | .For (body := b) .. => b
  | _ => []
set_option backward.match.sparseCases false in
noncomputable def forIter : Stmt → Expr
  | .For (iter := b) .. => b
  | _ => .Name (Str.ofString "") ⟨0, 0, 0, 0⟩
noncomputable def RestX (prog : Program) (w : World) (A : Around) (E : Value → Shared → Prop) (env : Env) (target : Expr) (body : List Stmt) (Q : Flow → Shared → Prop) (it : Value) : Nat → Shared → Prop
  | 0, _ => False
  | n + 1, s => wpAny (model prog w) A (pyNext it) (fun r s₁ => match r with
      | none => Q .next s₁
      | some y => wpAny (model prog w) A (letOwnedTupleGo target it y) (fun _ s₁' => wpAny (model prog w) A (assign target env y) (fun _ s₂ => wpAny (model prog w) A (execs body env) (fun f s₃ => match f with
          | .next | .cont => RestX prog w A E env target body Q it n s₃
          | .brk => Q .next s₃
          | .ret v => Q (.ret v) s₃) E s₂) E s₁') E s₁) E s
theorem forX {target iter : Expr} {body : List Stmt} {pos : Pos} {s : Shared}
    (h : wpAny (model prog w) A (eval iter env) (fun xv s₁ => wpAny (model prog w) A (pyIter xv) (fun it s₂ => ∃ n, RestX prog w A E env target body Q it n s₂) E s₁) E s)
    (hs : ∀ x, foldedSetIterable iter env x = pure x := by intro _; rfl) (hE : PassesOwn (model prog w) A env E := by passes_own) :
    wpAny (model prog w) A (exec (.For target iter body [] pos) env) Q E s := by
  refine wpAny_For (wpAny_mono h (fun xv s₁ h₁ => wpAny_mono h₁ (fun it s₂ h₂ => ?_) fun _ _ z => z) fun _ _ z => z) hs
  obtain ⟨n, h₂⟩ := h₂
  refine codeAny_forLoop_any (R := fun r s' => match r with | .ok f => Q f s' | .error e => cameBackBy (model prog w) A env E e s') (fun k s' => RestX prog w A E env target body Q it k s') ?_ n h₂
  intro k s' hk
  cases k with
  | zero => exact hk.elim
  | succ k =>
    refine wpAny_passesOwn hE (wpAny_mono (hk : wpAny (model prog w) A (pyNext it) _ E s') (fun r s₁ hr => ?_) fun _ _ z => z)
    cases r with
    | none => exact wpAny_execs_nil hr
    | some y =>
      refine wpAny_passesOwn hE (wpAny_mono hr (fun _ s₁' h₁' => ?_) fun _ _ z => z)
      refine wpAny_passesOwn hE (wpAny_mono h₁' (fun _ s₂ h₂ => ?_) fun _ _ z => z)
      refine wpAny_passesOwn hE (wpAny_mono h₂ (fun f s₃ h₃ => ?_) fun _ _ z => z)
      cases f with
      | next => exact ⟨k, Nat.lt_succ_self k, h₃⟩
      | cont => exact ⟨k, Nat.lt_succ_self k, h₃⟩
      | brk => exact h₃
      | ret _ => exact h₃
theorem letGo_ref {elts : List Expr} {x1} {pos : Pos} {s : Shared} {r T : Addr} {o : Obj} {Q : Unit → Shared → Prop} (ho : s.heap.get? r = some o) (hc : ∀ n, o.cls ≠ .type n) (h : Q () s) : wpAny (model prog w) A (letOwnedTupleGo (.Tuple elts x1 pos) (.ref r) (.ref T)) Q E s := by
  unfold letOwnedTupleGo
  refine wpAny_bind (wpAny_load ho ?_)
  obtain ⟨c, d, dt, sl⟩ := o
  cases c <;> first | exact absurd rfl (hc _) | exact wpAny_pure h
end
section
variable {prog : Program} {w : World} {A : Around} {E : Value → Shared → Prop} {s : Shared} {h₀ : Heap} {L l : Addr} {m : Str → Option Value} {news : List (Addr × Obj)} {its : Array Value} {n : Nat}
theorem iter_list {Q : Value → Shared → Prop} (F : Fr h₀ L s.heap m) (N : News h₀ L s.heap news) (hm : (l, listOf its n) ∈ news)
    (h : ∀ (I : Nat) h', Fr h₀ L h' m → News h₀ L h' ((I, liObj l (0 : Nat)) :: news) → (∀ q ∈ news, q.1 < I) → Q (.ref I) { s with heap := h' }) : wpAny (model prog w) A (call (.builtin "iter") [.ref l]) Q E s := by
  refine call_function_entry (by decide +kernel) (by decide +kernel) kdk_entry_iter (kdk_args_iter _) ?_
  unfold Builtin.«iter»
  refine wpAny_bind (m := someArgs "iter" 1 2 _) (wpAny_of_eq (a := [Value.ref l]) (by first | rfl | kernel_rfl!) ?_)
  dsimp only
  refine wpAny_bind (wpAny_pyIter_list (News.isList N hm) ?_)
  exact wpAny_pure ⟨_, rfl, h s.heap.objs.size _ (F.push _) (N.push F _) fun q hq => Heap.lt_size (N q hq).1⟩
end
section
variable {prog : Program} {w : World} {A : Around} {E : Value → Shared → Prop} {s : Shared} {it l : Addr} {vs : Array Value} {v : Value} {j : Nat}
theorem pyNext_li0 {Q : Option Value → Shared → Prop} (ho : s.heap.get? it = some (liObj l j)) (hl : s.heap.IsList l vs) (hx : vs[j]? = some v)
    (hQ : ∀ h', h'.get? it = some (liObj l (j + 1 : Nat)) → Heap.SameBut it s.heap h' → Q (some v) { s with heap := h' }) : wpAny (model prog w) A (pyNext (.ref it)) Q E s := by
  have hit : s.heap.IsListIter it l j := ⟨_, ho, rfl, rfl⟩
  unfold pyNext
  obtain ⟨ol, hol, _, nl, hdl⟩ := hl
  have hd : (liObj l j).data = .fields #[.ref l, .int j 0] := rfl
  refine wpAny_bind (wpAny_attempt (wpAny_callSpecial?_slot (name := Str.ofString "__next__") hit.typeIs slot_listiter_next
    (wpAny_call_entry slot_listiter_next hit.typeIs entry_listiter_next ?_ (args_listiter_next _))))
  show wpAny _ _ (field (.ref it) 0 >>= _) _ _ s
  refine wpAny_bind (wpAny_field ho hd (x := .ref l) rfl ?_)
  show wpAny _ _ (if (Value.ref l == Value.none) = true then _ else _) _ _ s
  rw [if_neg (show ¬ ((Value.ref l == Value.none) = true) from Bool.false_ne_true)]
  show wpAny _ _ (field (.ref it) 1 >>= _) _ _ s
  refine wpAny_bind (wpAny_field ho hd (x := .int j 0) rfl ?_)
  show wpAny _ _ (seqItems? (.ref l) >>= _) _ _ s
  refine wpAny_bind (wpAny_seqItems hol hdl ?_)
  simp only [Int.toNat_natCast, hx]
  refine wpAny_bind (wpAny_setField ho hd (by simp) (wpAny_pure ⟨v, rfl, wpAny_pure (hQ _ ?_ (Heap.SameBut.update ..))⟩))
  rw [Heap.get?_update_self _ ho (Obj.isFreed_of_fields (Obj.data_mapFields hd _))]
  simp [Obj.mapFields, liObj, rawInt]
end
section
variable {prog : Program} {w : World} {A : Around} {E : Value → Shared → Prop} {s : Shared} {h₀ : Heap} {L I l : Addr} {m : Str → Option Value} {news : List (Addr × Obj)} {its : Array Value} {n j : Nat} {v : Value}
theorem news_lt {h : Heap} (N : News h₀ L h news) : ∀ q ∈ news, q.1 < h.objs.size := fun q hq => Heap.lt_size (N q hq).1
theorem li_next {Q : Option Value → Shared → Prop} (F : Fr h₀ L s.heap m) (N : News h₀ L s.heap ((I, liObj l j) :: news)) (r : ∀ q ∈ news, q.1 ≠ I) (hm : (l, listOf its n) ∈ news) (hx : its[j]? = some v)
    (h : ∀ h', Fr h₀ L h' m → News h₀ L h' ((I, liObj l (j + 1 : Nat)) :: news) → Q (some v) { s with heap := h' }) : wpAny (model prog w) A (pyNext (.ref I)) Q E s :=
  have hI := N _ (.head _)
  pyNext_li0 hI.1 (News.isList N (.tail _ hm)) hx fun h' ho hs => h h' (F.change hs hI.2.1 hI.2.2) (News.setIn (own := []) N (fun _ hq => nomatch hq) r hs ho)
theorem li_stop {Q : Option Value → Shared → Prop} (hh : A.handled = none) (F : Fr h₀ L s.heap m) (N : News h₀ L s.heap ((I, liObj l j) :: news)) (r : ∀ q ∈ news, q.1 ≠ I) (hm : (l, listOf its n) ∈ news) (hx : its[j]? = none)
    (h : ∀ h', Fr h₀ L h' m → News h₀ L h' news → Q none { s with heap := h' }) : wpAny (model prog w) A (pyNext (.ref I)) Q E s :=
  have hI := N _ (.head _)
  wpAny_pyNext_list_end hh ⟨_, hI.1, rfl, rfl⟩ (News.isList N (.tail _ hm)) hx fun h' hx => h h'
    ⟨F.ns.at fun o e => hx L o (fun z => hI.2.1 z.symm) e, fun b o e => hx b o (fun z => by rw [z, hI.2.2] at e; cases e) (F.keep b o e), F.above⟩
    fun q hq => ⟨hx _ _ (r q hq) (N _ (.tail _ hq)).1, (N _ (.tail _ hq)).2⟩
theorem letGo_name {x : Str} {q : Pos} {v y : Value} {Q : Unit → Shared → Prop} (h : Q () s) : wpAny (model prog w) A (letOwnedTupleGo (.Name x q) v y) Q E s := by
  unfold letOwnedTupleGo
  exact wpAny_pure h
end
section
variable {prog : Program} {w : World} {A : Around} {E : Value → Shared → Prop} {s : Shared} {h₀ : Heap} {L D : Addr} {m : Str → Option Value} {news : List (Addr × Obj)} {its : Array Value} {n k : Nat} {v : Value} {t : Tok} {g : Obj → List (Addr × Obj)}
theorem fr_ext {h : Heap} {m' : Str → Option Value} (F : Fr h₀ L h m) (e : ∀ y, m y = m' y) : Fr h₀ L h m' := (funext e : m = m') ▸ F
theorem list_set {Q : Unit → Shared → Prop} (F : Fr h₀ L s.heap m) (N : News h₀ L s.heap news) (U : UpdF D (listOf its n) news g) (h1 : k < its.size) (hz : its.size < 64)
    (h : ∀ h', Fr h₀ L h' m → News h₀ L h' (g (listOf (its.setIfInBounds k v) n)) → Q () { s with heap := h' }) : wpAny (model prog w) A (setItem (.ref D) (.int (k : Nat) t) v) Q E s := by
  obtain ⟨pre, post, rfl, hg, a, b⟩ := U.split
  have z := N (D, listOf its n) (List.mem_append.mpr (.inr (.head _)))
  refine ki_setAt z.1 (by omega) (by omega) (by simpa using h1) (h _ (F.change (Heap.SameBut.update ..) z.2.1 z.2.2) (hg _ ▸ ki_turn _ N a b ?_ ?_))
  · simp
  · simp
end
local macro_rules | `(tactic| walk_at "eval Name") => `(tactic| (k_here; (with_reducible show wpAny _ _ (eval (Expr.Name _ _) (envOf _ _ _ _ _)) _ _ _); k_dflt (refine' ld ?k1 ?k2 ?_; (case k1 => k_asm); (case k2 => with_reducible assumption); k_whole)))
section
variable {w : World} {p : Program} {loose : List Str} {mean : ExcName → Option Value} {mg mb : Str → Option Value} {dp un : Nat} {gd : Option (List Code)} {cn : Str} {cs : Scope} {a : Addr} {ccd : Value} {cl : List (Str × Addr)} {outer : List Env} {A₀ : Around} {base h₀ : Heap} {L : Addr} {m : Str → Option Value} {news rest : List (Addr × Obj)} {s : Shared} {Q E : Value → Shared → Prop}
noncomputable abbrev rkEnv (L' : Addr) : Env := envOf (Str.ofString "_rank") (scOf (topSt 17)) L' 321 (.ref 320)
noncomputable def MM (iv : Value) (R0 : Nat) (a1 a2 a3 a4 a5 a6 a7 : Option Value) (m0 : Str → Option Value) : Str → Option Value := fun y =>
  if y = Str.ofString "i" then some iv else if y = Str.ofString "result" then some (.ref R0) else if y = Str.ofString "_" then a1 else if y = Str.ofString "g" then a2 else if y = Str.ofString "group" then a3 else
  if y = Str.ofString "size" then a4 else if y = Str.ofString "rank" then a5 else if y = Str.ofString "value" then a6 else if y = Str.ofString "orig_pos" then a7 else m0 y
theorem fr_mm {h₀ h : Heap} {L : Addr} {m m0 : Str → Option Value} {iv : Value} {R0 : Nat} (F : Fr h₀ L h m) (h1 : m (Str.ofString "i") = some iv) (h2 : m (Str.ofString "result") = some (.ref R0)) (h3 : ∀ y, y ≠ Str.ofString "i" → y ≠ Str.ofString "result" → y ≠ Str.ofString "_" → y ≠ Str.ofString "g" → y ≠ Str.ofString "group" → y ≠ Str.ofString "size" → y ≠ Str.ofString "rank" → y ≠ Str.ofString "value" → y ≠ Str.ofString "orig_pos" → m y = m0 y) : Fr h₀ L h (MM iv R0 (m (Str.ofString "_")) (m (Str.ofString "g")) (m (Str.ofString "group")) (m (Str.ofString "size")) (m (Str.ofString "rank")) (m (Str.ofString "value")) (m (Str.ofString "orig_pos")) m0) := by
  have e : m = MM iv R0 (m (Str.ofString "_")) (m (Str.ofString "g")) (m (Str.ofString "group")) (m (Str.ofString "size")) (m (Str.ofString "rank")) (m (Str.ofString "value")) (m (Str.ofString "orig_pos")) m0 := by
    funext y
    by_cases q0 : y = Str.ofString "i"
    · subst q0; exact h1
    by_cases q1 : y = Str.ofString "result"
    · subst q1; exact h2
    by_cases q2 : y = Str.ofString "_"
    · subst q2; rfl
    by_cases q3 : y = Str.ofString "g"
    · subst q3; rfl
    by_cases q4 : y = Str.ofString "group"
    · subst q4; rfl
    by_cases q5 : y = Str.ofString "size"
    · subst q5; rfl
    by_cases q6 : y = Str.ofString "rank"
    · subst q6; rfl
    by_cases q7 : y = Str.ofString "value"
    · subst q7; rfl
    by_cases q8 : y = Str.ofString "orig_pos"
    · subst q8; rfl
    simp only [MM, q0, q1, q2, q3, q4, q5, q6, q7, q8, if_false]
    exact h3 y q0 q1 q2 q3 q4 q5 q6 q7 q8
  exact e ▸ F
set_option maxRecDepth 100000 in
set_option maxHeartbeats 8000000 in
theorem rank_turn {n D dk tp kf G dG it j R0 c0 : Nat} {ol og oi : Obj} {t0 : Tok} {vs zs : Array Value} {κ : Nat → Array UInt8 × Tok} {o σ : Nat → Nat} {pu : Nat → Tok} {iv : Value} {a1 a2 a3 a4 a5 a6 a7 : Option Value} {m0 : Str → Option Value} {Q : Option Value → Shared → Prop}
  (TT : Tab n D dk tp kf ol t0 vs κ o (fun i => .int (σ i : Nat) (pu i)) rest) (hs : GS n D dG it kf κ o j og oi) (hj : j < n) (hn : n < 64) (hz : zs.size = n) (hσ : σ j < n)
  (C : Cx w p loose mean mg mb A₀ base outer h₀ L (MM iv R0 a1 a2 a3 a4 a5 a6 a7 m0) s.heap ((G, og) :: (dG, dictOf [] 0) :: (it, oi) :: (R0, listOf zs c0) :: rest)) (hd : dp + 20 < recursionLimit) (hu : un + 100 < cLine)
  (n1 : G ≠ dG) (n2 : G ≠ it) (n3 : dG ≠ it) (n4 : R0 ≠ G) (n5 : R0 ≠ dG) (n6 : R0 ≠ it) (r1 : ∀ q ∈ rest, q.1 ≠ G) (r2 : ∀ q ∈ rest, q.1 ≠ it) (r3 : ∀ q ∈ rest, q.1 ≠ R0) {fr : UInt64} (hE : PassesOwn (model PySem.Challenge.pw_ij0047_01 w) (ktrTop dp un gd (Str.ofString "_rank") (scOf (topSt 17)) L 321 (.ref 320) [] outer) (rkEnv L) E)
  (hadd : ∀ (t : Tok) (Q' : Value → Shared → Prop) (E' : Value → Shared → Prop) (s' : Shared), (∀ t' k, s'.toks ≤ k → Q' (.float fr t') { s' with toks := k }) → wpAny (model PySem.Challenge.pw_ij0047_01 w) (ktrTop dp un gd (Str.ofString "_rank") (scOf (topSt 17)) L 321 (.ref 320) [] outer) (binaryOp .Add iv (.float (Float64.ofFrac false 2 2) t)) Q' E' s') {IV : Value → Prop}
  (hinc : ∀ (t : Tok) (Q' : Value → Shared → Prop) (E' : Value → Shared → Prop) (s' : Shared), (∀ v' k, s'.toks ≤ k → IV v' → Q' v' { s' with toks := k }) → wpAny (model PySem.Challenge.pw_ij0047_01 w) (ktrTop dp un gd (Str.ofString "_rank") (scOf (topSt 17)) L 321 (.ref 320) [] outer) (inplaceOp .Add iv (.int 1 t)) Q' E' s')
  (hret : ∀ (g h' : Heap) (tk' : Nat) (og' oi' : Obj) (iv' : Value) (b1 b2 b3 b4 b5 b6 b7 : Option Value) (t5 : Tok), GS n D dG it kf κ o (j + 1) og' oi' → KtsTurn (outer.filterMap (·.frame)) h₀ g → s.toks ≤ tk' → IV iv' →
    Cx w p loose mean mg mb A₀ base outer g L (MM iv' R0 b1 b2 b3 b4 b5 b6 b7 m0) h' ((G, og') :: (dG, dictOf [] 0) :: (it, oi') :: (R0, listOf (zs.setIfInBounds (σ j) (.float fr t5)) c0) :: rest) → Q none { s with heap := h', toks := tk' }) :
  wpAny (model PySem.Challenge.pw_ij0047_01 w) (ktrTop dp un gd (Str.ofString "_rank") (scOf (topSt 17)) L 321 (.ref 320) [] outer) (pyNext (.ref G)) (fun r s₁ => match r with
      | none => False
      | some y => wpAny (model PySem.Challenge.pw_ij0047_01 w) (ktrTop dp un gd (Str.ofString "_rank") (scOf (topSt 17)) L 321 (.ref 320) [] outer) (letOwnedTupleGo (forTarget (stAt (bodyOf (topSt 17)) 6)) (.ref G) y) (fun _ s₁' => wpAny (model PySem.Challenge.pw_ij0047_01 w) (ktrTop dp un gd (Str.ofString "_rank") (scOf (topSt 17)) L 321 (.ref 320) [] outer) (assign (forTarget (stAt (bodyOf (topSt 17)) 6)) (rkEnv L) y) (fun _ s₂ => wpAny (model PySem.Challenge.pw_ij0047_01 w) (ktrTop dp un gd (Str.ofString "_rank") (scOf (topSt 17)) L 321 (.ref 320) [] outer) (execs (forBody (stAt (bodyOf (topSt 17)) 6)) (rkEnv L)) (fun f s₃ => match f with
          | .next | .cont => Q none s₃
          | .brk => False
          | .ret v => False) E s₂) E s₁') E s₁) E s := by
  have XB := C.XB
  have TB := C.TB
  have hkm := kmFind w.params
  obtain ⟨sl, rfl⟩ := hs.obj
  have I := InstAt.of_news C.N (x := G) (dx := dG) (C := 167) (.head _) (.tail _ (.head _))
  have rG : ∀ q ∈ (R0, listOf zs c0) :: rest, q.1 ≠ G := List.forall_mem_cons.2 ⟨n4, r1⟩
  have rI : ∀ q ∈ (R0, listOf zs c0) :: rest, q.1 ≠ it := List.forall_mem_cons.2 ⟨n6, r2⟩
  refine owit_next C.F C.X I hkm.2.2.2.2.2.2.2.1 hkm.2.2.2.2.2.2.2.2.2.1 ?_
  refine gs_next (TT.mono fun q hq => .tail _ hq) hs hj hn C rfl (by ktr_room) (by ktr_units) n1 n2 n3 rG rI fun h1 tk1 pr gr dg u1 u2 u3 htk1 C1 => ?_
  refine letGo_ref (C1.N _ (.tail _ (.tail _ (.tail _ (.head _))))).1 (fun n e => nomatch e) ?_
  have lt1 := C1.lt
  have B := C.B
  have T := C.T
  have X := C.X
  have N := C1.N
  have F := C1.F
  clear I
  (try dsimp only at N F htk1)
  conv in (occs := *) (forTarget _) => all_goals whnf
  conv in (occs := *) (forBody _) => all_goals whnf
  k_steps
  rename Fr _ _ _ _ => F2
  rename News _ _ _ _ => N2
  have e1 : gr ≠ G := news_ne C1.N (.tail _ (.head _)) (.tail _ (.tail _ (.tail _ (.head _)))) (by intro e; cases e)
  have e2 : dg ≠ G := news_ne C1.N (.tail _ (.tail _ (.head _))) (.tail _ (.tail _ (.tail _ (.head _)))) (by intro e; cases e)
  have e3 : gr ≠ it := news_ne C1.N (.tail _ (.head _)) (.tail _ (.tail _ (.tail _ (.tail _ (.tail _ (.head _)))))) (by intro e; cases e)
  have e4 : dg ≠ it := news_ne C1.N (.tail _ (.tail _ (.head _))) (.tail _ (.tail _ (.tail _ (.tail _ (.tail _ (.head _)))))) (by intro e; have e' := congrArg Obj.cls e; simp [dictOf, liObj] at e')
  refine gs_list (ser := .int (j + 1) u3) (u1 := u1) (u2 := u2) (rest := (gr, grObj dg (.int (j + 1) u1) (.ref G) (.bytes (κ j).1 (κ j).2)) :: (dg, dictOf [] 0) :: (R0, listOf zs c0) :: rest) (TT.mono fun q hq => .tail _ (.tail _ (.tail _ hq))) hj rfl ⟨B, F2, X, fun q hq => N2 q (by revert q hq; tb_start), T, XB, TB⟩ rfl (by ktr_room) (by ktr_units) n1 n2 n3
    (List.forall_mem_cons.2 ⟨e1, List.forall_mem_cons.2 ⟨e2, rG⟩⟩) (List.forall_mem_cons.2 ⟨e3, List.forall_mem_cons.2 ⟨e4, rI⟩⟩) (.head _) (.tail _ (.head _)) ?_
  intro g h2 tk2 S c og' oi' hs' KT htk2 lt2 l1 l2 l3 C2
  clear N2 F2
  have lR0 : R0 < S := (List.forall_mem_cons.1 (List.forall_mem_cons.1 (List.forall_mem_cons.1 lt2).2).2).1
  have lr : ∀ q ∈ rest, q.1 ≠ S := fun q hq => Nat.ne_of_lt (lt2 q (.tail _ (.tail _ (.tail _ hq))))
  have mo : (o j, tupObj #[.bytes (κ j).1 (κ j).2, .int (σ j : Nat) (pu j)]) ∈ rest := TT.m4 j hj
  have lo : o j < S := lt2 _ (.tail _ (.tail _ (.tail _ mo)))
  have no : o j ≠ R0 := r3 _ mo
  have C3 := C2.sub (news' := (S, listOf #[.ref (o j)] c) :: (o j, tupObj #[.bytes (κ j).1 (κ j).2, .int (σ j : Nat) (pu j)]) :: (R0, listOf zs c0) :: (G, og') :: (dG, dictOf [] 0) :: (it, oi') :: rest) (by tb_start)
  have F3 := C3.F
  have N3 := C3.N
  have B3 := C3.B
  have X3 := C3.X
  have T3 := C3.T
  (try dsimp only at htk2)
  k_steps
  rename News _ _ _ _ => N4
  refine ⟨kun_lenL (News.isList N4 (.head _)) (k := 1) rfl (by decide) ?_⟩
  k_steps
  refine hadd _ _ _ _ ?_
  intro t5 k5 hk5
  (try dsimp only at hk5)
  k_steps
  refine forX ?_ (hE := hE)
  k_steps
  rename Fr _ _ _ _ => F6
  rename News _ _ _ _ => N6
  refine wpAny_pyIter_list (News.isList N6 (.head _)) ?_
  have lt6 := news_lt N6
  have F7 := F6.push (liObj S (0 : Nat))
  have N7 := News.push F6 N6 (liObj S (0 : Nat))
  clear F6 N6
  refine ⟨2, ?_⟩
  refine li_next F7 N7 (fun q hq => Nat.ne_of_lt (lt6 q hq)) (.head _) (v := .ref (o j)) rfl fun h8 F8 N8 => ?_
  refine wpAny_letOwnedTupleGo_listiter ⟨_, (N8 _ (.head _)).1, rfl, rfl⟩ ?_
  clear F7 N7
  k_lt lt6
  k_steps
  refine list_set (by assumption) (by assumption) (by k_updF) (by omega) (by omega) ?_
  intro h9 F9 N9
  (try dsimp only at N9)
  k_steps
  refine li_stop (j := 1) (news := (S, listOf #[.ref (o j)] c) :: (R0, listOf (zs.setIfInBounds (σ j) (.float fr t5)) c0) :: (G, og') :: (dG, dictOf [] 0) :: (it, oi') :: rest) rfl F9 (cb_drop N9 (by tb_start)) (by k_all) (.head _) rfl ?_
  intro h10 F10 N10
  clear F9 N9
  k_steps
  refine hinc _ _ _ _ ?_
  intro v' k7 hk7 hiv
  (try dsimp only at hk7)
  k_steps
  rename Fr _ _ _ _ => F12
  rename News _ _ _ _ => N12
  refine hret g _ _ og' oi' v' _ _ _ _ _ _ _ t5 hs' KT (by kwd_inv) hiv ⟨B3, fr_mm F12 rfl rfl (fun y q0 q1 q2 q3 q4 q5 q6 q7 q8 => by simp only [MM, q0, q1, q2, q3, q4, q5, q6, q7, q8, if_false]), X3, fun q hq => N12 q (by revert q hq; tb_start), T3, XB, TB⟩
end

section
variable {w : World} {p : Program} {loose : List Str} {mean : ExcName → Option Value} {mg mb : Str → Option Value} {dp un : Nat} {gd : Option (List Code)} {cn : Str} {cs : Scope} {a : Addr} {ccd : Value} {cl : List (Str × Addr)} {outer : List Env} {A₀ : Around} {base h₀ : Heap} {L : Addr} {m : Str → Option Value} {news rest : List (Addr × Obj)} {s : Shared} {Q E : Value → Shared → Prop}
noncomputable abbrev rkA (dp un : Nat) (gd : Option (List Code)) (L : Addr) (outer : List Env) : Around := ktrTop dp un gd (Str.ofString "_rank") (scOf (topSt 17)) L 321 (.ref 320) [] outer
/-- the numbers of a ranking: what i is at a turn, and what rank comes out -/
structure Nums (w : World) (A : Around) (IV : Nat → Value → Prop) (FR : Nat → UInt64) : Prop where
  add : ∀ (j : Nat) (iv : Value), j < 64 → IV j iv → ∀ (t : Tok) (Q' : Value → Shared → Prop) (E' : Value → Shared → Prop) (s' : Shared), (∀ t' k, s'.toks ≤ k → Q' (.float (FR j) t') { s' with toks := k }) → wpAny (model PySem.Challenge.pw_ij0047_01 w) A (binaryOp .Add iv (.float (Float64.ofFrac false 2 2) t)) Q' E' s'
  inc : ∀ (j : Nat) (iv : Value), j < 64 → IV j iv → ∀ (t : Tok) (Q' : Value → Shared → Prop) (E' : Value → Shared → Prop) (s' : Shared), (∀ v' k, s'.toks ≤ k → IV (j + 1) v' → Q' v' { s' with toks := k }) → wpAny (model PySem.Challenge.pw_ij0047_01 w) A (inplaceOp .Add iv (.int 1 t)) Q' E' s'
noncomputable def Filled (n : Nat) (σ : Nat → Nat) (FR : Nat → UInt64) (j : Nat) (zs : Array Value) : Prop := zs.size = n ∧ ∀ i, i < j → ∃ t, zs[σ i]? = some (.float (FR i) t)
theorem Filled.step {n j : Nat} {σ : Nat → Nat} {FR : Nat → UInt64} {zs : Array Value} {t : Tok} (h : Filled n σ FR j zs) (hσ : σ j < n) (hinj : ∀ i, i < j → σ i ≠ σ j) : Filled n σ FR (j + 1) (zs.setIfInBounds (σ j) (.float (FR j) t)) := by
  refine ⟨by rw [Array.size_setIfInBounds, h.1], fun i hi => ?_⟩
  by_cases e : i = j
  · subst e
    exact ⟨t, by rw [Array.getElem?_setIfInBounds]; simp [h.1, hσ]⟩
  · obtain ⟨u, hu⟩ := h.2 i (by omega)
    exact ⟨u, by rw [Array.getElem?_setIfInBounds, if_neg (fun q => hinj i (by omega) q.symm)]; exact hu⟩
set_option maxRecDepth 100000 in
set_option maxHeartbeats 8000000 in
theorem rank_loop {n D dk tp kf G dG it R0 c0 : Nat} {ol : Obj} {t0 : Tok} {vs : Array Value} {κ : Nat → Array UInt8 × Tok} {o σ : Nat → Nat} {pu : Nat → Tok} {m0 : Str → Option Value} {Qf : Flow → Shared → Prop} {IV : Nat → Value → Prop} {FR : Nat → UInt64} {tk0 : Nat} {gs : Array GenState} {dr : Drawn} {os : OsState}
  (TT : Tab n D dk tp kf ol t0 vs κ o (fun i => .int (σ i : Nat) (pu i)) rest) (h0 : 0 < n) (hn : n < 64) (hσ : ∀ j, j < n → σ j < n) (hinj : ∀ i j, i < n → j < n → σ i = σ j → i = j) (hd : dp + 20 < recursionLimit) (hu : un + 100 < cLine)
  (n1 : G ≠ dG) (n2 : G ≠ it) (n3 : dG ≠ it) (n4 : R0 ≠ G) (n5 : R0 ≠ dG) (n6 : R0 ≠ it) (r1 : ∀ q ∈ rest, q.1 ≠ G) (r2 : ∀ q ∈ rest, q.1 ≠ it) (r3 : ∀ q ∈ rest, q.1 ≠ R0)
  (hE : PassesOwn (model PySem.Challenge.pw_ij0047_01 w) (rkA dp un gd L outer) (rkEnv L) E) (NN : Nums w (rkA dp un gd L outer) IV FR)
  (hfin : ∀ (g h' : Heap) (tk' : Nat) (iv' : Value) (zs' : Array Value) (b1 b2 b3 b4 b5 b6 b7 : Option Value), KtsTurn (outer.filterMap (·.frame)) h₀ g → tk0 ≤ tk' → Filled n σ FR n zs' →
    Cx w p loose mean mg mb A₀ base outer g L (MM iv' R0 b1 b2 b3 b4 b5 b6 b7 m0) h' ((R0, listOf zs' c0) :: rest) → Qf .next ⟨h', gs, dr, tk', os⟩) :
  ∀ (f j : Nat) (g h : Heap) (tk : Nat) (og oi : Obj) (iv : Value) (zs : Array Value) (b1 b2 b3 b4 b5 b6 b7 : Option Value), j + f = n → GS n D dG it kf κ o j og oi → IV j iv → Filled n σ FR j zs → KtsTurn (outer.filterMap (·.frame)) h₀ g → tk0 ≤ tk →
    Cx w p loose mean mg mb A₀ base outer g L (MM iv R0 b1 b2 b3 b4 b5 b6 b7 m0) h ((G, og) :: (dG, dictOf [] 0) :: (it, oi) :: (R0, listOf zs c0) :: rest) →
    RestX PySem.Challenge.pw_ij0047_01 w (rkA dp un gd L outer) E (rkEnv L) (forTarget (stAt (bodyOf (topSt 17)) 6)) (forBody (stAt (bodyOf (topSt 17)) 6)) Qf (.ref G) (f + 1) ⟨h, gs, dr, tk, os⟩ := by
  intro f
  induction f with
  | zero =>
    intro j g h tk og oi iv zs b1 b2 b3 b4 b5 b6 b7 hj hs hiv hz KT htk C
    have e : j = n := by omega
    subst e
    have hkm := kmFind w.params
    obtain ⟨sl, rfl⟩ := hs.obj
    have I := InstAt.of_news C.N (x := G) (dx := dG) (C := 167) (.head _) (.tail _ (.head _))
    have rG : ∀ q ∈ (R0, listOf zs c0) :: rest, q.1 ≠ G := List.forall_mem_cons.2 ⟨n4, r1⟩
    have rI : ∀ q ∈ (R0, listOf zs c0) :: rest, q.1 ≠ it := List.forall_mem_cons.2 ⟨n6, r2⟩
    refine owit_next (s := ⟨h, gs, dr, tk, os⟩) C.F C.X I hkm.2.2.2.2.2.2.2.1 hkm.2.2.2.2.2.2.2.2.2.1 ?_
    refine gs_end (s := ⟨h, gs, dr, tk, os⟩) hs h0 C rfl (by omega) (by omega) n1 n2 n3 rG rI fun g' G₂ h' tk' e t KT' F' R' U' B' htk' => ?_
    refine stopT (s := ⟨h', gs, dr, tk', os⟩) B' F' R' U' owsi_facts.sub fun g₂ T₂ F₂ N₂ B₂ => ?_
    exact hfin g₂ h' tk' iv zs b1 b2 b3 b4 b5 b6 b7 ((KT.trans KT').trans T₂) (Nat.le_trans htk htk') hz ⟨B₂, F₂, C.XB.keeps B₂.stays, N₂, C.TB.keeps B₂.stays, C.XB, C.TB⟩
  | succ f ih =>
    intro j g h tk og oi iv zs b1 b2 b3 b4 b5 b6 b7 hj hs hiv hz KT htk C
    show wpAny _ _ (pyNext (.ref G)) _ E _
    refine wpAny_mono (rank_turn (s := ⟨h, gs, dr, tk, os⟩) (Q := fun _ s₃ => RestX PySem.Challenge.pw_ij0047_01 w (rkA dp un gd L outer) E (rkEnv L) (forTarget (stAt (bodyOf (topSt 17)) 6)) (forBody (stAt (bodyOf (topSt 17)) 6)) Qf (.ref G) (f + 1) s₃) (fr := FR j) (IV := IV (j + 1)) TT hs (by omega) hn hz.1 (hσ j (by omega)) C hd hu n1 n2 n3 n4 n5 n6 r1 r2 r3 hE (NN.add j iv (by omega) hiv) (NN.inc j iv (by omega) hiv) fun g' h' tk' og' oi' iv' c1 c2 c3 c4 c5 c6 c7 t5 hs' KT' htk' hiv' C' => ?_) (fun r s₁ hr => ?_) fun _ _ e => e
    · exact ih (j + 1) g' h' tk' og' oi' iv' _ c1 c2 c3 c4 c5 c6 c7 (by omega) hs' hiv' (hz.step (hσ j (by omega)) fun i hi e => by have := hinj i j (by omega) (by omega) e; omega) (KT.trans KT') (Nat.le_trans htk htk') C'
    · cases r with
      | none => exact hr.elim
      | some y =>
        refine wpAny_mono hr (fun _ s₂ h₂ => wpAny_mono h₂ (fun _ s₃ h₃ => wpAny_mono h₃ (fun fl s₄ h₄ => ?_) fun _ _ e => e) fun _ _ e => e) fun _ _ e => e
        cases fl with
        | next => exact h₄
        | cont => exact h₄
        | brk => exact h₄.elim
        | ret v => exact h₄.elim
end

section
variable {w : World} {p : Program} {loose : List Str} {mean : ExcName → Option Value} {mg mb : Str → Option Value} {dp un : Nat} {gd : Option (List Code)} {cn : Str} {cs : Scope} {a : Addr} {ccd : Value} {cl : List (Str × Addr)} {outer : List Env} {A₀ : Around} {base h₀ : Heap} {L : Addr} {m : Str → Option Value} {news rest : List (Addr × Obj)} {s : Shared} {Q E : Value → Shared → Prop}
set_option maxRecDepth 100000 in
theorem rank_go {n D dk tp kf e0 G dG it R0 c0 e : Nat} {out : List Value} {t0 t1 t2 : Tok} {zs : Array Value} {κ : Nat → Array UInt8 × Tok} {o σ : Nat → Nat} {pu : Nat → Tok} {iv : Value} {b1 b2 b3 b4 b5 b6 b7 : Option Value} {m0 : Str → Option Value} {Qf : Flow → Shared → Prop} {IV : Nat → Value → Prop} {FR : Nat → UInt64}
  (h0 : 0 < n) (hn : n < 64) (hσ : ∀ j, j < n → σ j < n) (hinj : ∀ i j, i < n → j < n → σ i = σ j → i = j) (hd : dp + 20 < recursionLimit) (hu : un + 100 < cLine)
  (hitem : ∀ j, j < n → out.toArray[j]? = some (.ref (o j)) ∧ (o j, tupObj #[.bytes (κ j).1 (κ j).2, .int (σ j : Nat) (pu j)]) ∈ rest) (hlast : out.toArray[n]? = none) (tok : ∀ j, j < n → (κ j).2 ≠ 0) (ne1 : ∀ i j, i < n → j < n → i ≠ j → (κ i).1 ≠ (κ j).1) (ne2 : ∀ i j, i < n → j < n → i ≠ j → (κ i).2 ≠ (κ j).2)
  (hE : PassesOwn (model PySem.Challenge.pw_ij0047_01 w) (rkA dp un gd L outer) (rkEnv L) E) (NN : Nums w (rkA dp un gd L outer) IV FR) (hiv : IV 0 iv) (hz : zs.size = n)
  (C : Cx w p loose mean mg mb A₀ base outer h₀ L (MM iv R0 b1 b2 b3 b4 b5 b6 b7 m0) s.heap ((it, liObj D (0 : Nat)) :: (G, gbObj dG (.int 0 t1) .none .none (.bool false) (.bool false) (.bool false) (.ref it) (.ref kf) (.int 0 t2) .none) :: (dG, dictOf [] 0) :: (tp, tupObj #[.int 0 t0]) :: (e0, tupObj #[]) :: (kf, igObj dk tp) :: (dk, dictOf [] 0) :: (R0, listOf zs c0) :: (D, listOf out.toArray e) :: rest))
  (d1 : ∀ q ∈ [G, dG, tp, kf, dk, R0, D], it ≠ q) (d2 : ∀ q ∈ [dG, tp, kf, dk, R0, D], G ≠ q) (d3 : ∀ q ∈ [dG, tp, kf, dk, D], R0 ≠ q) (r1 : ∀ q ∈ rest, q.1 ≠ G) (r2 : ∀ q ∈ rest, q.1 ≠ it) (r3 : ∀ q ∈ rest, q.1 ≠ R0)
  (hfin : ∀ (g h' : Heap) (tk' : Nat) (iv' : Value) (zs' : Array Value) (b1 b2 b3 b4 b5 b6 b7 : Option Value), KtsTurn (outer.filterMap (·.frame)) h₀ g → s.toks ≤ tk' → Filled n σ FR n zs' →
    Cx w p loose mean mg mb A₀ base outer g L (MM iv' R0 b1 b2 b3 b4 b5 b6 b7 m0) h' ((R0, listOf zs' c0) :: rest) → Qf .next { s with heap := h', toks := tk' }) :
  wpAny (model PySem.Challenge.pw_ij0047_01 w) (rkA dp un gd L outer) (pyIter (.ref G)) (fun it s₂ => ∃ n, RestX PySem.Challenge.pw_ij0047_01 w (rkA dp un gd L outer) E (rkEnv L) (forTarget (stAt (bodyOf (topSt 17)) 6)) (forBody (stAt (bodyOf (topSt 17)) 6)) Qf it n s₂) E s := by
  have hkm := kmFind w.params
  simp only [List.forall_mem_cons, List.not_mem_nil, false_implies, implies_true, and_true] at d1 d2 d3
  obtain ⟨a1, a2, a3, a4, a5, a6, a7⟩ := d1
  obtain ⟨c1, c2, c3, c4, c5, c6⟩ := d2
  obtain ⟨f1, f2, f3, f4, f5⟩ := d3
  have I := InstAt.of_news C.N (x := G) (dx := dG) (C := 167) (.tail _ (.head _)) (.tail _ (.tail _ (.head _)))
  refine owit_iter C.F C.X I hkm.2.2.2.2.2.2.1 hkm.2.2.2.2.2.2.2.2.1 (gb_iter C rfl (by omega) (by omega) fun h₁ tk₁ htk C₁ => ?_)
  have I₁ := InstAt.of_news C₁.N (x := G) (dx := dG) (C := 167) (.tail _ (.head _)) (.tail _ (.tail _ (.head _)))
  refine owit_it (s := { s with heap := h₁, toks := tk₁ }) C₁.F C.X I₁ hkm.2.2.2.2.2.2.2.1 ?_
  refine ⟨n + 1, ?_⟩
  have sub : ∀ q ∈ rest, q ∈ (kf, igObj dk tp) :: (dk, dictOf [] 0) :: (tp, tupObj #[.int 0 t0]) :: (D, listOf out.toArray e) :: rest := fun q hq => .tail _ (.tail _ (.tail _ (.tail _ hq)))
  refine rank_loop (rest := (kf, igObj dk tp) :: (dk, dictOf [] 0) :: (tp, tupObj #[.int 0 t0]) :: (D, listOf out.toArray e) :: rest) (D := D) (dk := dk) (tp := tp) (kf := kf) (t0 := t0) (vs := out.toArray) (pu := pu) (tk0 := s.toks)
    ⟨.head _, .tail _ (.head _), .tail _ (.tail _ (.head _)), fun j hj => sub _ (hitem j hj).2, .tail _ (.tail _ (.tail _ (.head _))), rfl, ⟨_, rfl⟩, fun j hj => (hitem j hj).1, hlast, tok, ne1, ne2⟩ h0 hn hσ hinj hd hu
    c1 (Ne.symm a1) (Ne.symm a2) (Ne.symm c5) f1 (Ne.symm a6)
    (by simp only [List.forall_mem_cons]; exact ⟨Ne.symm c3, Ne.symm c4, Ne.symm c2, Ne.symm c6, r1⟩) (by simp only [List.forall_mem_cons]; exact ⟨Ne.symm a4, Ne.symm a5, Ne.symm a3, Ne.symm a7, r2⟩) (by simp only [List.forall_mem_cons]; exact ⟨Ne.symm f3, Ne.symm f4, Ne.symm f2, Ne.symm f5, r3⟩)
    hE NN (fun g h' tk' iv' zs' b1 b2 b3 b4 b5 b6 b7 KT htk' hF C' => hfin g h' tk' iv' zs' b1 b2 b3 b4 b5 b6 b7 KT htk' hF (C'.sub (by tb_start)))
    n 0 h₀ h₁ tk₁ _ _ iv zs b1 b2 b3 b4 b5 b6 b7 (by omega) (.inl ⟨rfl, h0, rfl, _, _, _, _, _, _, rfl⟩) hiv ⟨hz, fun i hi => by omega⟩ KtsTurn.refl htk (C₁.sub (by tb_start))
local macro_rules | `(tactic| k_enter) => `(tactic| (kp_kind "rest"; (fail_if_success k_inElt); refine Stood.go ?_))
local macro_rules | `(tactic| walk_at "call builtin:iter") => `(tactic| refine Stood.go ?_)
set_option maxRecDepth 100000 in
set_option maxHeartbeats 8000000 in
theorem rank_rest {n D R0 c0 e : Nat} {out : List Value} {zs : Array Value} {κ : Nat → Array UInt8 × Tok} {o σ : Nat → Nat} {pu : Nat → Tok} {iv : Value} {Qf : Flow → Shared → Prop} {IV : Nat → Value → Prop} {FR : Nat → UInt64}
  (h0 : 0 < n) (hn : n < 64) (hσ : ∀ j, j < n → σ j < n) (hinj : ∀ i j, i < n → j < n → σ i = σ j → i = j) (hd : dp + 20 < recursionLimit) (hu : un + 100 < cLine)
  (hitem : ∀ j, j < n → out.toArray[j]? = some (.ref (o j)) ∧ (o j, tupObj #[.bytes (κ j).1 (κ j).2, .int (σ j : Nat) (pu j)]) ∈ rest) (hlast : out.toArray[n]? = none) (tok : ∀ j, j < n → (κ j).2 ≠ 0) (ne1 : ∀ i j, i < n → j < n → i ≠ j → (κ i).1 ≠ (κ j).1) (ne2 : ∀ i j, i < n → j < n → i ≠ j → (κ i).2 ≠ (κ j).2)
  (hE : PassesOwn (model PySem.Challenge.pw_ij0047_01 w) (rkA dp un gd L outer) (rkEnv L) E) (NN : Nums w (rkA dp un gd L outer) IV FR) (hiv : IV 0 iv) (hz : zs.size = n)
  (C : Cx w p loose mean mg mb A₀ base outer h₀ L m s.heap ((R0, listOf zs c0) :: (D, listOf out.toArray e) :: rest)) (nRD : R0 ≠ D) (r3 : ∀ q ∈ rest, q.1 ≠ R0)
  (hv : m (Str.ofString "val_pos") = some (.ref D)) (hi : m (Str.ofString "i") = some iv) (hr : m (Str.ofString "result") = some (.ref R0))
  (hfin : ∀ (g h' : Heap) (tk' : Nat) (m' : Str → Option Value) (zs' : Array Value), m' (Str.ofString "result") = some (.ref R0) → KtsTurn (outer.filterMap (·.frame)) h₀ g → s.toks ≤ tk' → Filled n σ FR n zs' →
    Cx w p loose mean mg mb A₀ base outer g L m' h' ((R0, listOf zs' c0) :: rest) → Qf .next { s with heap := h', toks := tk' }) :
  wpAny (model PySem.Challenge.pw_ij0047_01 w) (ktrTop dp un gd (Str.ofString "_rank") (scOf (topSt 17)) L 321 (.ref 320) [] outer) (exec (stAt (bodyOf (topSt 17)) 6) (rkEnv L)) Qf E s := by
  have XB := C.XB
  have TB := C.TB
  have B := C.B
  have T := C.T
  have X := C.X
  have N := C.N
  have F := C.F
  clear C
  refine forX ?_ (hE := hE)
  k_steps
  refine Stood.mk ?_
  k_dflt (refine' kp_rest ?k1 ?k2 ?k3 ?k4 ?k5 ?kA ?kF ?kK ?k6 ?k7 ?k8 ?kV ?kP ?kG ?kB ?_ ?c2 ?c3 ?c4 ?c5)
  case kA | kF => exact rfl
  case kK => first | assumption | exact rfl
  case k1 | k2 | k3 | k4 | k5 => k_asm
  case k6 | k7 => k_is
  case k8 => ktr_room
  case kV => kl_lit
  case kP => exact rfl
  case kG => exact fun _ => rfl
  case kB => exact fun _ => locs rfl
  case c5 => decide
  case c2 | c3 | c4 => exact rfl
  k_whole
  intro D1 g1 L1 h1 l1 FG1 F1 N1 B1 X1 T1
  (try k_lt l1)
  (try dsimp only)
  (try k_lift B1)
  (try k_fold)
  k_steps
  refine Stood.mk ?_
  refine' iter_list ?F ?N ?m ?_
  case F | N => k_asm
  case m => k_mem
  k_whole
  intro I2 h2 F2 N2 l2
  (try k_lt l2)
  (try k_sweep)
  k_steps
  rename Fr _ _ _ _ => F6
  rename News _ _ _ _ => N6
  refine rank_go h0 hn hσ hinj hd hu hitem hlast tok ne1 ne2 hE NN hiv hz ⟨B, fr_mm F6 hi hr fun y _ _ _ _ _ _ _ _ _ => rfl, X, N6, T, XB, TB⟩ ?_ ?_ ?_ ?_ ?_ r3 ?_
  · simp only [List.forall_mem_cons, List.not_mem_nil, false_implies, implies_true, and_true]
    refine ⟨neN ?_, neN ?_, neN ?_, neN ?_, neN ?_, neN ?_, neN ?_⟩ <;> omega
  · simp only [List.forall_mem_cons, List.not_mem_nil, false_implies, implies_true, and_true]
    refine ⟨neN ?_, neN ?_, neN ?_, neN ?_, neN ?_, neN ?_⟩ <;> omega
  · simp only [List.forall_mem_cons, List.not_mem_nil, false_implies, implies_true, and_true]
    refine ⟨neN ?_, neN ?_, neN ?_, neN ?_, neN ?_⟩ <;> omega
  · assumption
  · assumption
  · intro g h' tk' iv' zs' b1 b2 b3 b4 b5 b6 b7 KT htk hF C'
    exact hfin g h' tk' _ zs' rfl KT (by kwd_inv) hF C'
end

section
variable {prog : Program} {w : World} {A : Around} {E : Value → Shared → Prop} {s : Shared} {x : UInt64} {n : Int} {t u : Tok} {Q : Value → Shared → Prop}
theorem iadd_fi (hc : ¬ Float64.isInf (Float64.ofInt n) = true) (h : Q (.float (Float64.add x (Float64.ofInt n)) s.toks) { s with toks := s.toks + 1 }) : wpAny (model prog w) A (inplaceOp .Add (.float x t) (.int n u)) Q E s := by
  unfold inplaceOp
  try with_reducible refine wpAny_holding ?_
  have hfi : fillsInplaceSlot (.type "float") (Operator.info .Add).2 (Operator.Add == .Add) = pure false := by
    unfold fillsInplaceSlot
    show (typeLookup (.type "float") (dunderI (Operator.info .Add).2) >>= fun fi => pure (fi.isSome && !isSeqSlot fi)) = pure false
    rw [show typeLookup (.type "float") (dunderI (Operator.info .Add).2) = pure none from PySem.F.noI_float_add]; rfl
  refine wpAny_bind (wpAny_typeOf (typeIs_float s x t) (wpAny_bind (wpAny_of_eq hfi ?_)))
  show wpAny _ A (if false = true then _ else _) Q E s
  rw [if_neg Bool.false_ne_true]
  refine wpAny_bind (wpAny_binaryOp1_two (T := "float") (U := "int") (nm := (Operator.info .Add).2) (by decide) (typeIs_float s x t) (fun s' => typeIs_int s' n u) PySem.F.fills_float_add PySem.F.fills_int_add PySem.F.sub_int_float PySem.F.slot_float_add PySem.F.slot_int_radd ?_)
  exact wpAny_mono (call_gives PySem.F.slot_float_add (typeIs_float s x t) PySem.F.entry_float_add (PySem.F.args_float_add_2 _ _) (AutoFloatG5.float___add___float_int_1 x t n u hc) (Made.post_and (m := .float (Float64.add x (Float64.ofInt n))) (Q := Q) trivial h)) (fun _ _ q => .inl ⟨q.1, wpAny_pure q.2⟩) fun _ _ q => q
end
theorem ofInt_small {n : Int} (h : n.natAbs < 2 ^ 60) : ¬ Float64.isInf (Float64.ofInt n) = true := by
  intro e
  have h1 := Float64.ofInt_isInf_iff.1 e
  have h2 : (2 : Nat) ^ 60 ≤ 2 ^ 1024 - 2 ^ 970 := by decide +kernel
  exact absurd (Nat.le_trans h2 h1) (Nat.not_le.2 h)
noncomputable def one64 : UInt64 := Float64.ofFrac false 2 2
noncomputable def FI (f0 : UInt64) : Nat → UInt64
  | 0 => f0
  | j + 1 => Float64.add (FI f0 j) (Float64.ofInt 1)
theorem nums_int (w : World) (A : Around) : Nums w A (fun j v => ∃ t, v = .int j t) (fun j => Float64.add (Float64.ofInt j) one64) where
  add := by
    rintro j iv hj ⟨u, rfl⟩ t Q E s h
    exact AutoFloatOps.add_if_1 (ofInt_small (by omega)) (h s.toks (s.toks + 1) (Nat.le_succ _))
  inc := by
    rintro j iv hj ⟨u, rfl⟩ t Q E s h
    exact wpAny_iadd_int (h (.int (j + 1) s.toks) (s.toks + 1) (Nat.le_succ _) ⟨_, by push_cast; rfl⟩)
theorem nums_flt (w : World) (A : Around) (f0 : UInt64) : Nums w A (fun j v => ∃ t, v = .float (FI f0 j) t) (fun j => Float64.add (FI f0 j) one64) where
  add := by
    rintro j iv hj ⟨u, rfl⟩ t Q E s h
    exact AutoFloatOps.add_0 (h s.toks (s.toks + 1) (Nat.le_succ _))
  inc := by
    rintro j iv hj ⟨u, rfl⟩ t Q E s h
    exact iadd_fi (ofInt_small (by decide)) (h (.float (FI f0 (j + 1)) s.toks) (s.toks + 1) (Nat.le_succ _) ⟨_, rfl⟩)

section
variable {w : World} {p : Program} {loose : List Str} {mean : ExcName → Option Value} {mg mb : Str → Option Value} {dp un : Nat} {gd : Option (List Code)} {cn : Str} {cs : Scope} {a : Addr} {ccd : Value} {cl : List (Str × Addr)} {outer : List Env} {A₀ : Around} {base h₀ : Heap} {L : Addr} {m : Str → Option Value} {news rest : List (Addr × Obj)} {s : Shared} {Q E : Value → Shared → Prop}
theorem Cx.docs (C : Cx w p loose mean mg mb A₀ base outer h₀ L m s.heap news) (hD : Docs base) : Docs s.heap := (hD.keeps C.B.stays).keeps C.F.keep
theorem rank_enter {args : Args} {binds : List (Str × Value)} {R : Result → Shared → Prop} (C : Cx w p loose mean mg mb A₀ base outer h₀ L m s.heap news) (hD : Docs base) (hk : cs.kind = .function) (hd : dp < recursionLimit)
    (hbind : ∀ v t, BindsTo s (rankFd v t) args binds) (hloc : ∀ y ∈ binds, (scOf (topSt 17)).names.lookup y.1 = some .local)
    (h : ∀ t g L' h₁, Fr h₀ L g m → Cx w p loose mean mg mb (ktrTop dp un gd cn cs L a ccd cl outer) base (envX cn cs L a ccd cl :: outer) g L' (fun y => binds.reverse.lookup y) h₁ news → (∀ q ∈ news, q.1 < L') →
      wpAny (model PySem.Challenge.pw_ij0047_01 w) ((ktrTop dp un gd cn cs L a ccd cl outer).deeper (envOf (Str.ofString "_rank") (scOf (topSt 17)) L' 321 (.ref 320))) (execs (redocL t (sansDoc (bodyOf (topSt 17)))) (envOf (Str.ofString "_rank") (scOf (topSt 17)) L' 321 (.ref 320)))
        (fun fl s' => LeaveT A₀ base (envX cn cs L a ccd cl) outer h₀ L m g R (match fl with | .ret v => v | _ => .none) s')
        (fun e s' => wpAny (model PySem.Challenge.pw_ij0047_01 w) ((ktrTop dp un gd cn cs L a ccd cl outer).deeper (envOf (Str.ofString "_rank") (scOf (topSt 17)) L' 321 (.ref 320))) (leaving (envOf (Str.ofString "_rank") (scOf (topSt 17)) L' 321 (.ref 320)) e) (fun _ s'' => R (.error e) s'') (fun e' s'' => R (.error e') s'') s')
        { s with heap := h₁, toks := s.toks + binds.length }) :
    codeAny (model PySem.Challenge.pw_ij0047_01 w) (ktrTop dp un gd cn cs L a ccd cl outer) (.call (.ref 321) args) R s := by
  obtain ⟨v, t, ho⟩ := (C.docs hD).rank
  exact callT_plain (cl := []) C.B C.F C.N C.T.nolimit rfl rfl hk ho rfl (codeRec_of (C.X.keeps C.F.keep) rfl) hd (hbind v t) hloc (fun g L' h₁ FG F' N' B' st lt => h t g L' h₁ FG ⟨B', F', C.X.keeps st, N', C.T.keeps st, C.XB, C.TB⟩ lt) (by decide) rfl rfl rfl
theorem lt_of_allLt {d : Nat} : ∀ {l : List (Addr × Obj)}, AllLt d l → ∀ q ∈ l, q.1 < d
  | [], _, _, hq => nomatch hq
  | p :: r, h, q, hq => by
    rcases List.mem_cons.mp hq with rfl | hq
    · exact h.1
    · exact lt_of_allLt h.2 q hq
theorem choose2 {n : Nat} {P : Nat → Nat → Nat → Prop} (h : ∀ k, k < n → ∃ a b, P k a b) : ∃ f g : Nat → Nat, ∀ k, k < n → P k (f k) (g k) :=
  ⟨fun k => if h' : k < n then (h k h').choose else 0, fun k => if h' : k < n then (h k h').choose_spec.choose else 0, fun k hk => by
    simp only [hk, dif_pos]
    exact (h k hk).choose_spec.choose_spec⟩
section
variable {n : Nat} {key : Nat → Array UInt8}
theorem sigma_lt (hk : ∀ i j, i < n → j < n → key i = key j → i = j) (hn : 1 ≤ n) {k : Nat} (h : k < n) : sigma n key k < n := ((sort_places hk hn).2 k h).1
theorem rk_sigma (hk : ∀ i j, i < n → j < n → key i = key j → i = j) (hn : 1 ≤ n) {k : Nat} (h : k < n) : rk n key (sigma n key k) = k := ((sort_places hk hn).2 k h).2
theorem sigma_rk (hk : ∀ i j, i < n → j < n → key i = key j → i = j) (hn : 1 ≤ n) {i : Nat} (h : i < n) : sigma n key (rk n key i) = i :=
  rk_inj hk _ _ (sigma_lt hk hn (rk_lt i h)) h (rk_sigma hk hn (rk_lt i h))
end
/-- a list of floats by the keys' ranks -/
noncomputable def RankedBy (n : Nat) (key : Nat → Array UInt8) (FR : Nat → UInt64) (zs : Array Value) : Prop := zs.size = n ∧ ∀ i, i < n → ∃ t, zs[i]? = some (.float (FR (rk n key i)) t)
theorem Filled.ranked {n : Nat} {key : Nat → Array UInt8} {FR : Nat → UInt64} {zs : Array Value} (hk : ∀ i j, i < n → j < n → key i = key j → i = j) (hn : 1 ≤ n) (h : Filled n (sigma n key) FR n zs) : RankedBy n key FR zs :=
  ⟨h.1, fun i hi => by
    obtain ⟨t, e⟩ := h.2 (rk n key i) (rk_lt i hi)
    rw [sigma_rk hk hn hi] at e
    exact ⟨t, e⟩⟩
set_option maxRecDepth 100000 in
set_option maxHeartbeats 8000000 in
theorem rank_gen {l : Nat} {ol : Obj} {ks : List (Array UInt8 × Tok)} {pos : List Value} {kw : List (Str × Value)} {sv : Value} {IV : Nat → Value → Prop} {FR : Nat → UInt64} (NN : ∀ A, Nums w A IV FR)
  (hsub : ∀ (A : Around) (t : Tok) (Q' : Value → Shared → Prop) (E' : Value → Shared → Prop) (s' : Shared), (∀ v' k, s'.toks ≤ k → IV 0 v' → Q' v' { s' with toks := k }) → wpAny (model PySem.Challenge.pw_ij0047_01 w) A (binaryOp .Sub sv (.int 1 t)) Q' E' s')
  (hbind : ∀ v t, BindsTo s (rankFd v t) ⟨pos, kw⟩ [(Str.ofString "data", .ref l), (Str.ofString "key", .none), (Str.ofString "reverse", .bool false), (Str.ofString "ties", .str (Str.ofString "average") 787), (Str.ofString "start", sv)])
  (hn : 2 ≤ ks.length) (hn1 : ks.length < 64) (hkeys : ∀ i j, i < ks.length → j < ks.length → (ks.getD i (#[], 0)).1 = (ks.getD j (#[], 0)).1 → i = j)
  (htok : ∀ i, i < ks.length → (ks.getD i (#[], 0)).2 ≠ 0) (htok2 : ∀ i j, i < ks.length → j < ks.length → i ≠ j → (ks.getD i (#[], 0)).2 ≠ (ks.getD j (#[], 0)).2)
  (C : Cx w p loose mean mg mb A₀ base outer h₀ L m s.heap news) (hD : Docs base) (hk : cs.kind = .function) (hd : dp + 40 < recursionLimit) (hu : un + 200 < cLine)
  (m1 : (l, ol) ∈ news) (hol : ol.cls = .type "list") (hod : ∃ ep, ol.data = .seq (ks.map fun p => Value.bytes p.1 p.2).toArray ep)
  (hret : ∀ (g h' : Heap) (tk' r c : Nat) (zs : Array Value), KtsTurn (outer.filterMap (·.frame)) h₀ g → s.toks ≤ tk' → RankedBy ks.length (fun i => (ks.getD i (#[], 0)).1) FR zs → (∀ q ∈ news, q.1 < r) →
    Cx w p loose mean mg mb A₀ base outer g L m h' ((r, listOf zs c) :: news) → Q (.ref r) { s with heap := h', toks := tk' }) :
  wpAny (model PySem.Challenge.pw_ij0047_01 w) (ktrTop dp un gd cn cs L a ccd cl outer) (call (.ref 321) pos kw) Q E s := by
  refine wpAny_call (rank_enter C hD hk (by omega) hbind (locs rfl) ?_)
  intro t g L' h₁ FG C' lt
  have XB := C'.XB
  have TB := C'.TB
  have B := C'.B
  have T := C'.T
  have X := C'.X
  have N := C'.N
  have F := C'.F
  clear C'
  refine gt_up (Nat.le_add_right s.toks _) (fun tk0 htk0 => ?_)
  clear C
  k_steps
  rename News _ _ _ _ => N1
  rename Fr _ _ _ _ => F1
  refine zip_new ⟨B, F1, X, N1, T, XB, TB⟩ rfl (by ktr_room) (by ktr_units) (.tail _ (.tail _ m1)) hol hod (.head _) (.tail _ (.head _)) ?_
  intro h2 tk2 i1 TI TO z htk2 lt1 lt2 lt3 lt4 C2
  have N2 := C2.N
  have F2 := C2.F
  clear N1 F1
  dsimp only at htk2
  k_steps
  refine ⟨sorted_zip (ks := ks) (rest := (TI, tupObj #[.ref i1, .ref _]) :: news) rfl (by ktr_room) (by ktr_units) ?nd ?hr hn hn1 hkeys (.head _) (.tail _ m1) hol hod ⟨B, F2, X, fun q hq => N2 q (by revert q hq; tb_start), T, XB, TB⟩ ?_⟩
  case nd =>
    simp only [List.forall_mem_cons] at lt1
    obtain ⟨lx, ld, ln⟩ := lt1
    replace lx := ltN lx
    replace ld := ltN ld
    simp only [List.nodup_cons, List.mem_cons, List.not_mem_nil, or_false, not_or, List.nodup_nil, and_true, not_false_eq_true]
    (try dsimp only at lx ld)
    refine ⟨⟨neN ?_, neN ?_, neN ?_, neN ?_⟩, ⟨neN ?_, neN ?_, neN ?_⟩, ⟨neN ?_, neN ?_⟩, neN ?_⟩ <;> omega
  case hr =>
    simp only [List.forall_mem_cons] at lt1 ⊢
    obtain ⟨lx, ld, ln⟩ := lt1
    replace lx := ltN lx
    replace ld := ltN ld
    (try dsimp only at lx ld)
    refine ⟨by simp only [List.mem_cons, List.not_mem_nil, or_false, not_or]; refine ⟨neN ?_, neN ?_, neN ?_, neN ?_, neN ?_⟩ <;> omega, fun q hq => ?_⟩
    have h1 := ltN (ln q hq)
    simp only [List.mem_cons, List.not_mem_nil, or_false, not_or]
    refine ⟨Nat.ne_of_lt (by omega), Nat.ne_of_lt (by omega), Nat.ne_of_lt (by omega), ?_, ?_⟩
    · exact (by assumption : ∀ q ∈ news, q.1 ≠ _) q hq
    · exact (by assumption : ∀ q ∈ news, q.1 ≠ _) q hq
  intro h3 tk3 D e out R3 htk3 ltD hsub3 hlen hents C3
  have N3 := C3.N
  have F3 := C3.F
  clear N2 F2
  replace hsub3 := (List.forall_mem_cons.1 hsub3).2
  k_lt ltD
  dsimp only at htk3
  k_steps
  refine hsub _ _ _ _ _ ?_
  intro iv0 tkA htkA hiv0
  (try dsimp only at htkA)
  k_steps
  rename News _ _ _ _ => N4
  rename Fr _ _ _ _ => F4
  have hls : (out.toArray.size : Int) = (ks.length : Int) := by simp [hlen]
  refine ⟨kun_lenL (News.isList N4 (.tail _ (.head _))) hls (by omega) ?_⟩
  k_steps
  obtain ⟨o, pu, hop⟩ := choose2 hents
  have hn0 : 1 ≤ ks.length := by omega
  rename Fr _ _ _ _ => F8
  rename News _ _ _ _ => N8
  refine rank_rest (n := ks.length) (D := D) (out := out) (σ := sigma ks.length (fun i => (ks.getD i (#[], 0)).1)) (κ := fun k => ks.getD (sigma ks.length (fun i => (ks.getD i (#[], 0)).1) k) (#[], 0)) (o := o) (pu := pu) (IV := IV) (FR := FR) (rest := R3)
    (by omega) hn1 (fun j hj => sigma_lt hkeys hn0 hj) (fun i j hi hj e => by have h1 := rk_sigma hkeys hn0 hi; rw [e, rk_sigma hkeys hn0 hj] at h1; exact h1.symm) (by ktr_room) (by ktr_units)
    (fun j hj => ⟨by have := (hop j hj).1; rw [List.getElem?_toArray]; rw [List.getD, List.getElem?_eq_getElem (by omega)] at this; rw [List.getElem?_eq_getElem (by omega)]; simpa using this, (hop j hj).2⟩) (by simp [hlen])
    (fun j hj => htok _ (sigma_lt hkeys hn0 hj)) (fun i j hi hj hij e => hij (by have h1 := hkeys _ _ (sigma_lt hkeys hn0 hi) (sigma_lt hkeys hn0 hj) e; have h2 := rk_sigma hkeys hn0 hi; rw [h1, rk_sigma hkeys hn0 hj] at h2; exact h2.symm))
    (fun i j hi hj hij => htok2 _ _ (sigma_lt hkeys hn0 hi) (sigma_lt hkeys hn0 hj) fun e => hij (by have h2 := rk_sigma hkeys hn0 hi; rw [e, rk_sigma hkeys hn0 hj] at h2; exact h2.symm))
    (by passes_own) (NN _) hiv0 ?hz ⟨B, F8, X, fun q hq => N8 q (by revert q hq; tb_start), T, XB, TB⟩ (neN (by omega)) (by assumption) rfl rfl rfl ?_
  case hz => simp
  intro g' h9 tk9 m' zs hr KT htk9 hF C9
  have F9 := C9.F
  have N9 := C9.N
  have B9 := C9.B
  have X9 := C9.X
  have T9 := C9.T
  (try dsimp only at htk9)
  clear N8 F8
  k_steps
  exact hret _ _ _ _ _ zs (by assumption) (by kwd_inv) (hF.ranked hkeys hn0) (fun q hq => lt_of_allLt (by assumption) q (hsub3 q hq)) (by refine Cx.sub (news := (_, listOf zs _) :: R3) ?_ (List.forall_mem_cons.2 ⟨.head _, fun q hq => .tail _ (hsub3 q hq)⟩); kwd_rel)
end

section
variable {w : World} {p : Program} {loose : List Str} {mean : ExcName → Option Value} {mg mb : Str → Option Value} {dp un : Nat} {gd : Option (List Code)} {cn : Str} {cs : Scope} {a : Addr} {ccd : Value} {cl : List (Str × Addr)} {outer : List Env} {A₀ : Around} {base h₀ : Heap} {L : Addr} {m : Str → Option Value} {news rest : List (Addr × Obj)} {s : Shared} {Q E : Value → Shared → Prop}
theorem rank_int {l : Nat} {ol : Obj} {ks : List (Array UInt8 × Tok)} (hn : 2 ≤ ks.length) (hn1 : ks.length < 64) (hkeys : ∀ i j, i < ks.length → j < ks.length → (ks.getD i (#[], 0)).1 = (ks.getD j (#[], 0)).1 → i = j)
  (htok : ∀ i, i < ks.length → (ks.getD i (#[], 0)).2 ≠ 0) (htok2 : ∀ i j, i < ks.length → j < ks.length → i ≠ j → (ks.getD i (#[], 0)).2 ≠ (ks.getD j (#[], 0)).2)
  (C : Cx w p loose mean mg mb A₀ base outer h₀ L m s.heap news) (hD : Docs base) (hk : cs.kind = .function) (hd : dp + 40 < recursionLimit) (hu : un + 200 < cLine)
  (m1 : (l, ol) ∈ news) (hol : ol.cls = .type "list") (hod : ∃ ep, ol.data = .seq (ks.map fun p => Value.bytes p.1 p.2).toArray ep)
  (hret : ∀ (g h' : Heap) (tk' r c : Nat) (zs : Array Value), KtsTurn (outer.filterMap (·.frame)) h₀ g → s.toks ≤ tk' → RankedBy ks.length (fun i => (ks.getD i (#[], 0)).1) (fun j => Float64.add (Float64.ofInt j) one64) zs → (∀ q ∈ news, q.1 < r) →
    Cx w p loose mean mg mb A₀ base outer g L m h' ((r, listOf zs c) :: news) → Q (.ref r) { s with heap := h', toks := tk' }) :
  wpAny (model PySem.Challenge.pw_ij0047_01 w) (ktrTop dp un gd cn cs L a ccd cl outer) (call (.ref 321) [.ref l]) Q E s :=
  rank_gen (kw := []) (IV := fun j v => ∃ t, v = .int j t) (fun A => nums_int w A) (fun A t Q' E' s' h => AutoIntOps.sub_0 (h (.int (1 - 1) s'.toks) (s'.toks + 1) (Nat.le_succ _) ⟨_, rfl⟩)) (fun v t => rank_binds0 (C.X.keeps C.F.keep) _ v t) hn hn1 hkeys htok htok2 C hD hk hd hu m1 hol hod hret
theorem rank_flt {l : Nat} {ol : Obj} {ks : List (Array UInt8 × Tok)} {f0 : UInt64} {tf : Tok} (hn : 2 ≤ ks.length) (hn1 : ks.length < 64) (hkeys : ∀ i j, i < ks.length → j < ks.length → (ks.getD i (#[], 0)).1 = (ks.getD j (#[], 0)).1 → i = j)
  (htok : ∀ i, i < ks.length → (ks.getD i (#[], 0)).2 ≠ 0) (htok2 : ∀ i j, i < ks.length → j < ks.length → i ≠ j → (ks.getD i (#[], 0)).2 ≠ (ks.getD j (#[], 0)).2)
  (C : Cx w p loose mean mg mb A₀ base outer h₀ L m s.heap news) (hD : Docs base) (hk : cs.kind = .function) (hd : dp + 40 < recursionLimit) (hu : un + 200 < cLine)
  (m1 : (l, ol) ∈ news) (hol : ol.cls = .type "list") (hod : ∃ ep, ol.data = .seq (ks.map fun p => Value.bytes p.1 p.2).toArray ep)
  (hret : ∀ (g h' : Heap) (tk' r c : Nat) (zs : Array Value), KtsTurn (outer.filterMap (·.frame)) h₀ g → s.toks ≤ tk' → RankedBy ks.length (fun i => (ks.getD i (#[], 0)).1) (fun j => Float64.add (FI (Float64.sub f0 (Float64.ofInt 1)) j) one64) zs → (∀ q ∈ news, q.1 < r) →
    Cx w p loose mean mg mb A₀ base outer g L m h' ((r, listOf zs c) :: news) → Q (.ref r) { s with heap := h', toks := tk' }) :
  wpAny (model PySem.Challenge.pw_ij0047_01 w) (ktrTop dp un gd cn cs L a ccd cl outer) (call (.ref 321) [.ref l] [(Str.ofString "start", .float f0 tf)]) Q E s :=
  rank_gen (kw := [(Str.ofString "start", .float f0 tf)]) (IV := fun j v => ∃ t, v = .float (FI (Float64.sub f0 (Float64.ofInt 1)) j) t) (fun A => nums_flt w A _) (fun A t Q' E' s' h => AutoFloatOps.sub_fi_1 (ofInt_small (by decide)) (h _ _ (Nat.le_succ _) ⟨_, rfl⟩)) (fun v t => rank_binds1 (C.X.keeps C.F.keep) _ _ v t) hn hn1 hkeys htok htok2 C hD hk hd hu m1 hol hod hret
end

open PySem.Builtin.Math in
/-- the triple after k turns -/
noncomputable def tri (fx fy : Nat → UInt64) : Nat → UInt64 × UInt64 × UInt64
  | 0 => (Float64.zero false, Float64.zero false, Float64.zero false)
  | k + 1 => tlFma (fx k) (fy k) (tri fx fy k)
noncomputable abbrev triObj (t : UInt64 × UInt64 × UInt64) : Obj := { cls := .type "tuple", data := .seq #[rawInt t.1.toNat, rawInt t.2.1.toNat, rawInt t.2.2.toNat] }
section
variable {prog : Program} {w : World} {A : Around} {I J : Addr} {fp fp' wr wr' : List Addr} {G G' : Array GenState → Array GenState → Prop} {n : Nat} {P P' : Nat → Value → Prop} {St St' : Nat → Shared → Prop}
theorem entry_sumprod_loop : entryFor table "math.sumprod.loop" = some Builtin.«math.sumprod.loop» := by first | exact entryFor_of_fast (by kernel_rfl) | exact entryFor_of_tree (by kernel_rfl)
theorem plain_sumprod_loop : plainId "math.sumprod.loop" = true := by decide +kernel
theorem ofInt_small0 {n : Int} (h : n.natAbs < 2 ^ 60) : ¬ Float64.isInf (Float64.ofInt n) = true := by
  intro e
  have h1 := Float64.ofInt_isInf_iff.1 e
  have h2 : (2 : Nat) ^ 60 ≤ 2 ^ 1024 - 2 ^ 970 := by decide +kernel
  exact absurd (Nat.le_trans h2 h1) (Nat.not_le.2 h)
structure Reach (wr wr' : List Addr) (GI : Array GenState → Prop) (s s' : Shared) : Prop where
  heap : ∀ b o, b ∉ wr → b ∉ wr' → s.heap.get? b = some o → s'.heap.get? b = some o
  gens : GI s'.gens
  drawn : s'.drawn = s.drawn
  os : s'.os = s.os
  toks : s.toks ≤ s'.toks
set_option maxRecDepth 100000 in
noncomputable abbrev triObjI (a b c : Int) : Obj := { cls := .type "tuple", data := .seq #[rawInt a, rawInt b, rawInt c] }
theorem sumprod_turn0 {u1 u2 u3 : Int} {R : Result → Shared → Prop} {s : Shared} {T : Addr} {tot : Value} {io fu : Bool} (hfo : (io = true ∧ fu = false) ∨ (io = false)) 
    (hT : s.heap.get? T = some (triObjI u1 u2 u3))
    (h : wpAny (model prog w) A.in1 (pyNext (.ref I)) (fun p s₁ => wpAny (model prog w) A.in1 (pyNext (.ref J)) (fun q s₂ => match p, q with
      | some p, some q => ∃ x y tx ty, p = .float x tx ∧ q = .float y ty ∧ Float64.isFinite (Builtin.Math.tlFma x y (u1.toNat.toUInt64, u2.toNat.toUInt64, u3.toNat.toUInt64)).1 = true ∧ codeAny (model prog w) A (.builtin "math.sumprod.loop" ⟨[.ref I, .ref J, tot, .bool false, rawInt 0, .bool false, .bool true, .ref s₂.heap.objs.size, .bool true], []⟩) R { s₂ with heap := s₂.heap.push (triObj (Builtin.Math.tlFma x y (u1.toNat.toUInt64, u2.toNat.toUInt64, u3.toNat.toUInt64))) }
      | none, none => io = false ∧ fu = true ∧ (∃ k, tot = .int 0 k) ∧ R (.ok (.ret (.float (Float64.add (Float64.ofInt 0) (Builtin.Math.tlToFloat (u1.toNat.toUInt64, u2.toNat.toUInt64, u3.toNat.toUInt64))) (s₂.toks + 1)))) { s₂ with toks := s₂.toks + 1 + 1 }
      | _, _ => False) (fun e s' => R (.error e) s') s₁) (fun e s' => R (.error e) s') s) :
    codeAny (model prog w) A (.builtin "math.sumprod.loop" ⟨[.ref I, .ref J, tot, .bool io, rawInt 0, .bool false, .bool true, .ref T, .bool fu], []⟩) R s := by
  refine codeAny_builtin entry_sumprod_loop ?_
  rw [Around.under_plainId plain_sumprod_loop _]
  unfold Builtin.«math.sumprod.loop»
  refine wpAny_bind (wpAny_seqItems hT rfl ?_)
  show wpAny _ A.in1 (pyNext (.ref I) >>= _) _ _ _
  refine wpAny_bind (wpAny_mono h (fun p s₁ h₁ => ?_) fun _ _ e => e)
  refine wpAny_bind (wpAny_holding (wpAny_mono h₁ (fun q s₂ h₂ => ?_) fun _ _ e => e))
  cases p with
  | none =>
    cases q with
    | some q => exact h₂.elim
    | none =>
      obtain ⟨rfl, rfl, ⟨k, rfl⟩, hR⟩ := h₂
      show wpAny _ A.in1 (rule _ >>= _) _ _ _
      refine wpAny_bind (wpAny_rule ?_)
      show wpAny _ A.in1 (mkFloat _ >>= _) _ _ _
      refine wpAny_bind (wpAny_mkFloat ?_)
      refine wpAny_bind (wpAny_holding (AutoFloatOps.add_if_1 (ofInt_small0 (by decide)) ?_))
      exact wpAny_pure hR
  | some p =>
    cases q with
    | none => exact h₂.elim
    | some q =>
      obtain ⟨x, y, tx, ty, rfl, rfl, hf, hc⟩ := h₂
      rcases hfo with ⟨rfl, rfl⟩ | rfl
      · show wpAny _ A.in1 (rule _ >>= _) _ _ _
        refine wpAny_bind (wpAny_rule ?_)
        show wpAny _ A.in1 (if Float64.isFinite (Builtin.Math.tlFma x y _).1 = true then _ else _) _ _ _
        refine wpAny_ite_split (fun _ => ?_) (fun g => absurd hf g)
        exact wpAny_bind (wpAny_newTuple (wpAny_pure ⟨plainId_quiet plain_sumprod_loop _, hc⟩) (hsz := by show 3 ≤ sizeLine; rw [sizeLine_eq]; decide))
      · show wpAny _ A.in1 (if Float64.isFinite (Builtin.Math.tlFma x y _).1 = true then _ else _) _ _ _
        refine wpAny_ite_split (fun _ => ?_) (fun g => absurd hf g)
        exact wpAny_bind (wpAny_newTuple (wpAny_pure ⟨plainId_quiet plain_sumprod_loop _, hc⟩) (hsz := by show 3 ≤ sizeLine; rw [sizeLine_eq]; decide))
theorem int_u64 (x : UInt64) : (x.toNat : Int).toNat.toUInt64 = x := by rw [Int.toNat_natCast]; exact UInt64.ofNat_toNat
theorem sumprod_turn {R : Result → Shared → Prop} {s : Shared} {T : Addr} {t : UInt64 × UInt64 × UInt64} {tot : Value} {io fu : Bool} (hfo : (io = true ∧ fu = false) ∨ (io = false)) 
    (hT : s.heap.get? T = some (triObj t))
    (h : wpAny (model prog w) A.in1 (pyNext (.ref I)) (fun p s₁ => wpAny (model prog w) A.in1 (pyNext (.ref J)) (fun q s₂ => match p, q with
      | some p, some q => ∃ x y tx ty, p = .float x tx ∧ q = .float y ty ∧ Float64.isFinite (Builtin.Math.tlFma x y t).1 = true ∧ codeAny (model prog w) A (.builtin "math.sumprod.loop" ⟨[.ref I, .ref J, tot, .bool false, rawInt 0, .bool false, .bool true, .ref s₂.heap.objs.size, .bool true], []⟩) R { s₂ with heap := s₂.heap.push (triObj (Builtin.Math.tlFma x y t)) }
      | none, none => io = false ∧ fu = true ∧ (∃ k, tot = .int 0 k) ∧ R (.ok (.ret (.float (Float64.add (Float64.ofInt 0) (Builtin.Math.tlToFloat t)) (s₂.toks + 1)))) { s₂ with toks := s₂.toks + 1 + 1 }
      | _, _ => False) (fun e s' => R (.error e) s') s₁) (fun e s' => R (.error e) s') s) :
    codeAny (model prog w) A (.builtin "math.sumprod.loop" ⟨[.ref I, .ref J, tot, .bool io, rawInt 0, .bool false, .bool true, .ref T, .bool fu], []⟩) R s := by
  have e : (((t.1.toNat : Int).toNat.toUInt64, (t.2.1.toNat : Int).toNat.toUInt64, (t.2.2.toNat : Int).toNat.toUInt64) : UInt64 × UInt64 × UInt64) = t := by rw [int_u64, int_u64, int_u64]
  refine sumprod_turn0 (u1 := t.1.toNat) (u2 := t.2.1.toNat) (u3 := t.2.2.toNat) hfo hT ?_
  rw [e]
  exact h
theorem Reach.trans {wr wr' : List Addr} {GI : Array GenState → Prop} {s s' s'' : Shared} (x : Reach wr wr' GI s s') (y : Reach wr wr' GI s' s'') : Reach wr wr' GI s s'' :=
  ⟨fun b o h1 h2 e => y.heap b o h1 h2 (x.heap b o h1 h2 e), y.gens, y.drawn.trans x.drawn, y.os.trans x.os, Nat.le_trans x.toks y.toks⟩
set_option maxRecDepth 100000 in
theorem sumprod_loopW {fx fy : Nat → UInt64} {R : Result → Shared → Prop} {tot : Value} {k0 : Tok} {GI : Array GenState → Prop} (htot : tot = .int 0 k0)
    (Wp : WalksS prog w A.in1 I fp wr G n P St) (Wq : WalksS prog w A.in1 J fp' wr' G' n P' St') (hP : ∀ i v, P i v → ∃ t, v = .float (fx i) t) (hQ : ∀ i v, P' i v → ∃ t, v = .float (fy i) t)
    (keepP : ∀ i s s', St i s → Moved wr' G' s s' → St i s') (keepQ : ∀ i s s', St' i s → Moved wr G s s' → St' i s') (gp : ∀ a b, G a b → GI a → GI b) (gq : ∀ a b, G' a b → GI a → GI b)
    (hf : ∀ k, k < n → Float64.isFinite (tri fx fy (k + 1)).1 = true) :
    ∀ (f i : Nat) (s : Shared) (T : Addr) (io fu : Bool), i + f = n → ((i = 0 ∧ 0 < n ∧ io = true ∧ fu = false) ∨ (io = false ∧ fu = true)) → GI s.gens → St i s → St' i s → s.heap.get? T = some (triObj (tri fx fy i)) → (∀ b ∈ fp, b < T) → (∀ b ∈ fp', b < T) →
      (∀ s' tk, Reach wr wr' GI s s' → R (.ok (.ret (.float (Float64.add (Float64.ofInt 0) (Builtin.Math.tlToFloat (tri fx fy n))) tk))) s') →
      codeAny (model prog w) A (.builtin "math.sumprod.loop" ⟨[.ref I, .ref J, tot, .bool io, rawInt 0, .bool false, .bool true, .ref T, .bool fu], []⟩) R s := by
  intro f
  induction f with
  | zero =>
    intro i s T io fu hi hio hg st st' hT hl hl' hR
    have e : i = n := by omega
    subst e
    rcases hio with ⟨h1, h2, _⟩ | ⟨rfl, rfl⟩
    · omega
    refine sumprod_turn (.inr rfl) hT (Wp.done s _ _ st fun s₁ m₁ => Wq.done s₁ _ _ (keepQ _ _ _ st' m₁) fun s₂ m₂ => ⟨rfl, rfl, ⟨k0, htot⟩, hR _ _ ?_⟩)
    exact ⟨fun b o h1 h2 e => m₂.heap b o h2 (m₁.heap b o h1 e), gq _ _ m₂.gens (gp _ _ m₁.gens hg), m₂.drawn.trans m₁.drawn, m₂.os.trans m₁.os, Nat.le_trans m₁.toks (Nat.le_trans m₂.toks (by show s₂.toks ≤ s₂.toks + 1 + 1; omega))⟩
  | succ f ih =>
    intro i s T io fu hi hio hg st st' hT hl hl' hR
    refine sumprod_turn (by rcases hio with ⟨_, _, h1, h2⟩ | ⟨h1, _⟩; exact .inl ⟨h1, h2⟩; exact .inr h1) hT (Wp.item i s _ _ (by omega) st fun v s₁ hv st₁ m₁ => Wq.item i s₁ _ _ (by omega) (keepQ _ _ _ st' m₁) fun u s₂ hu st₂' m₂ => ?_)
    obtain ⟨tx, rfl⟩ := hP _ _ hv
    obtain ⟨ty, rfl⟩ := hQ _ _ hu
    have st₂ := keepP _ _ _ st₁ m₂
    have g₂ := gq _ _ m₂.gens (gp _ _ m₁.gens hg)
    have hT₂ : T < s₂.heap.objs.size := Heap.lt_size (m₂.heap T _ (fun hm => absurd (hl' _ (Wq.sub _ hm)) (Nat.lt_irrefl _)) (m₁.heap T _ (fun hm => absurd (hl _ (Wp.sub _ hm)) (Nat.lt_irrefl _)) hT))
    refine ⟨fx i, fy i, tx, ty, rfl, rfl, hf i (by omega), ?_⟩
    refine ih (i + 1) _ s₂.heap.objs.size false true (by omega) (.inr ⟨rfl, rfl⟩) g₂ (Wp.frame _ _ _ s₂.toks st₂ (Nat.le_refl _) fun b _ o e => Heap.get?_push_of_some _ e) (Wq.frame _ _ _ s₂.toks st₂' (Nat.le_refl _) fun b _ o e => Heap.get?_push_of_some _ e) (Heap.get?_push_size _ rfl)
      (fun b hb => Nat.lt_trans (hl b hb) hT₂) (fun b hb => Nat.lt_trans (hl' b hb) hT₂)
      (fun s' tk hr => hR s' tk ?_)
    refine Reach.trans (s' := { s₂ with heap := s₂.heap.push (triObj (Builtin.Math.tlFma (fx i) (fy i) (tri fx fy i))) }) ⟨fun b o h1 h2 e => ?_, g₂, m₂.drawn.trans m₁.drawn, m₂.os.trans m₁.os, Nat.le_trans m₁.toks m₂.toks⟩ hr
    exact Heap.get?_push_of_some _ (m₂.heap b o h2 (m₁.heap b o h1 e))
end

section
variable {prog : Program} {w : World} {A : Around} {E : Value → Shared → Prop} {Q : Value → Shared → Prop} {s : Shared} {x y : Value}
theorem entry_sumprod : entryFor table "math.sumprod" = some Builtin.«math.sumprod» := by first | exact entryFor_of_fast (by kernel_rfl) | exact entryFor_of_tree (by kernel_rfl)
theorem plain_sumprod : plainId "math.sumprod" = true := by decide +kernel
theorem kind_sumprod : builtinKind "math.sumprod" = none := by decide +kernel
theorem args_sumprod (a b : Value) : argsOk "math.sumprod" ⟨[a, b], []⟩ := by unfold argsOk; kernel_rfl
noncomputable abbrev retR (Q E : Value → Shared → Prop) : Result → Shared → Prop := fun r s' => match r with | .ok (.ret v) => Q v s' | .ok _ => False | .error e => E e s'
theorem call_again {id : String} {b : Builtin} {args : List Value} (hk : builtinKind id = none) (hp : plainId id = true) (hb : entryFor table id = some b) (ha : argsOk id ⟨args, []⟩)
    (hc : wpAny (model prog w) A.in1 (b ⟨args, []⟩) (fun fin s' => match fin with | .done f => retR Q E (.ok f) s' | .again c' => c'.quiet = true ∧ codeAny (model prog w) A c' (retR Q E) s') (fun e s' => retR Q E (.error e) s') s) :
    wpAny (model prog w) A (call (.builtin id) args) Q E s := by
  refine wpAny_call (codeAny_call_builtin hp hb ?_)
  have hfin := hc
  simp only [checkBuiltinCall, hk]
  cases hsig : Manifest.signature? id with
  | none => exact wpAny_pure hfin
  | some sig =>
    simp only [argsOk, hsig] at ha
    have h2 : Bind.checkArgs id sig ⟨args, []⟩ = pure () := ha
    show wpAny _ A.in1 (Bind.checkArgs id sig ⟨args, []⟩) _ _ s
    rw [h2]; exact wpAny_pure hfin
theorem sumprod_call (h : wpAny (model prog w) A.in1 (pyIter x) (fun pIt s₁ => wpAny (model prog w) A.in1 (pyIter y) (fun qIt s₂ =>
      codeAny (model prog w) A (.builtin "math.sumprod.loop" ⟨[pIt, qIt, .int 0 s₂.toks, .bool true, rawInt 0, .bool false, .bool true, .ref s₂.heap.objs.size, .bool false], []⟩) (retR Q E)
        { s₂ with heap := s₂.heap.push (triObj (tri (fun _ => 0) (fun _ => 0) 0)), toks := s₂.toks + 1 }) E s₁) E s) :
    wpAny (model prog w) A (call (.builtin "math.sumprod") [x, y]) Q E s := by
  refine call_again kind_sumprod plain_sumprod entry_sumprod (args_sumprod x y) ?_
  unfold Builtin.«math.sumprod»
  refine wpAny_bind (m := Builtin.Math.mathSome "sumprod" 2 2 _) (wpAny_of_eq (a := [x, y]) (by first | rfl | kernel_rfl!) ?_)
  dsimp only
  refine wpAny_bind (wpAny_mono h (fun pIt s₁ h₁ => ?_) fun _ _ e => e)
  refine wpAny_bind (wpAny_holding (wpAny_mono h₁ (fun qIt s₂ h₂ => ?_) fun _ _ e => e))
  refine wpAny_bind (wpAny_mkInt ?_)
  exact wpAny_bind (wpAny_newTuple (wpAny_pure ⟨plainId_quiet plain_sumprod_loop _, h₂⟩) (hsz := by show 3 ≤ sizeLine; rw [sizeLine_eq]; omega))
end

section
variable {prog : Program} {w : World} {A : Around} {E : Value → Shared → Prop} {Q : Value → Shared → Prop} {s : Shared}
noncomputable def Walkable (h : Heap) (l : Addr) (items : Array Value) : Prop := h.IsList l items ∨ h.IsTuple l items
theorem Walkable.at {h h' : Heap} {l : Addr} {items : Array Value} (x : Walkable h l items) (e : ∀ o, h.get? l = some o → h'.get? l = some o) : Walkable h' l items :=
  x.elim (fun x => .inl (x.at e)) (fun x => .inr (x.at e))
theorem Walkable.lt {h : Heap} {l : Addr} {items : Array Value} (x : Walkable h l items) : l < h.objs.size := by
  rcases x with ⟨o, ho, _⟩ | ⟨o, ho, _⟩ <;> exact Heap.lt_size ho
theorem iter_seq {l : Addr} {xs : Array Value} (hh : A.handled = none) (hW : Walkable s.heap l xs)
    (hQ : ∀ (St : Nat → Heap → Prop) (ob : Obj), Walks prog w A s.heap.objs.size [s.heap.objs.size, l] [s.heap.objs.size] xs.size (fun i v => xs[i]? = some v) St → St 0 (s.heap.push ob) → ob.isFreed = false → Q (.ref s.heap.objs.size) { s with heap := s.heap.push ob }) :
    wpAny (model prog w) A (pyIter (.ref l)) Q E s := by
  have hne : l ≠ s.heap.objs.size := Nat.ne_of_lt hW.lt
  rcases hW with hl | hl
  · refine wpAny_pyIter_list hl (hQ _ _ (Walks.list hh _ l hne xs) ⟨⟨_, Heap.get?_push_size _ rfl, rfl, rfl⟩, hl.at fun o e => Heap.get?_push_of_some _ e⟩ rfl)
  · refine wpAny_pyIter_tuple hl (hQ _ _ (Walks.tuple hh _ l hne xs) ⟨⟨_, Heap.get?_push_size _ rfl, rfl, rfl⟩, hl.at fun o e => Heap.get?_push_of_some _ e⟩ rfl)
set_option maxRecDepth 100000 in
theorem sumprod_seqs {x y : Nat} {xs ys : Array Value} {fx fy : Nat → UInt64} (hh : A.handled = none) (h1 : Walkable s.heap x xs) (h2 : Walkable s.heap y ys) (hn : ys.size = xs.size) (h0 : 0 < xs.size)
    (hx : ∀ (i : Nat) (v : Value), xs[i]? = some v → ∃ t, v = .float (fx i) t) (hy : ∀ (i : Nat) (v : Value), ys[i]? = some v → ∃ t, v = .float (fy i) t)
    (hf : ∀ k, k < xs.size → Float64.isFinite (tri fx fy (k + 1)).1 = true)
    (hQ : ∀ s' tk, (∀ b o, s.heap.get? b = some o → s'.heap.get? b = some o) → s'.gens = s.gens → s'.drawn = s.drawn → s'.os = s.os → s.toks ≤ s'.toks →
      Q (.float (Float64.add (Float64.ofInt 0) (Builtin.Math.tlToFloat (tri fx fy xs.size))) tk) s') :
    wpAny (model prog w) A (call (.builtin "math.sumprod") [.ref x, .ref y]) Q E s := by
  have hi : A.in1.handled = none := hh
  refine sumprod_call (iter_seq hi h1 fun St ob W st hf₁ => iter_seq hi (h2.at fun o e => Heap.get?_push_of_some _ e) fun St' ob' W' st' hf₂ => ?_)
  rw [hn] at W'
  have lx : x < s.heap.objs.size := h1.lt
  have ly : y < s.heap.objs.size := h2.lt
  have sz : (s.heap.push ob).objs.size = s.heap.objs.size + 1 := Heap.size_push ..
  have sz' : ((s.heap.push ob).push ob').objs.size = s.heap.objs.size + 2 := by rw [Heap.size_push, sz]
  dsimp only at W' ⊢
  have nI : ¬ (s.heap.objs.size = (s.heap.push ob).objs.size) := by omega
  have nx1 : ¬ (x = (s.heap.push ob).objs.size) := by omega
  have ny0 : ¬ (y = s.heap.objs.size) := by omega
  have aI : (((s.heap.push ob).push ob').push (triObj (tri (fun _ => 0) (fun _ => 0) 0))).get? ((s.heap.push ob).push ob').objs.size = some (triObj (tri fx fy 0)) := Heap.get?_push_size _ rfl
  have b0 : ∀ {b o}, (s.heap.push ob).get? b = some o → (((s.heap.push ob).push ob').push (triObj (tri (fun _ => 0) (fun _ => 0) 0))).get? b = some o := fun e => Heap.get?_push_of_some _ (Heap.get?_push_of_some _ e)
  refine sumprod_loopW (fx := fx) (fy := fy) (GI := fun g => g = s.gens) (n := xs.size) rfl W.toS W'.toS hx hy (fun i a b hst m => W.frame _ _ _ hst fun c hc o e => m.heap c o ?_ e) (fun i a b hst m => W'.frame _ _ _ hst fun c hc o e => m.heap c o ?_ e)
    (fun a b e h => e.trans h) (fun a b e h => e.trans h) hf xs.size 0 _ _ true false (Nat.zero_add _) (.inl ⟨rfl, h0, rfl, rfl⟩) rfl (W.frame _ _ _ st fun c hc o e => b0 e) (W'.frame _ _ _ st' fun c hc o e => Heap.get?_push_of_some _ e) aI ?_ ?_ fun s' tk r => hQ s' tk (fun b o e => r.heap b o ?_ ?_ (b0 (Heap.get?_push_of_some _ e))) r.gens r.drawn r.os ?_
  · rcases hc with _ | ⟨_, _ | ⟨_, h⟩⟩
    · exact fun z => nI (List.mem_singleton.mp z)
    · exact fun z => nx1 (List.mem_singleton.mp z)
    · cases h
  · rcases hc with _ | ⟨_, _ | ⟨_, h⟩⟩
    · exact fun z => nI (List.mem_singleton.mp z).symm
    · exact fun z => ny0 (List.mem_singleton.mp z)
    · cases h
  · intro b hb
    rcases hb with _ | ⟨_, _ | ⟨_, h⟩⟩
    · show s.heap.objs.size < ((s.heap.push ob).push ob').objs.size; omega
    · show x < ((s.heap.push ob).push ob').objs.size; omega
    · cases h
  · intro b hb
    rcases hb with _ | ⟨_, _ | ⟨_, h⟩⟩
    · show (s.heap.push ob).objs.size < ((s.heap.push ob).push ob').objs.size; omega
    · show y < ((s.heap.push ob).push ob').objs.size; omega
    · cases h
  · intro z
    have := Heap.lt_size e
    exact absurd (List.mem_singleton.mp z) (Nat.ne_of_lt this)
  · intro z
    have : b < s.heap.objs.size := Heap.lt_size e
    exact absurd (List.mem_singleton.mp z) (Nat.ne_of_lt (by rw [sz]; exact Nat.lt_succ_of_lt this))
  · have := r.toks; dsimp only at this; omega
end

section
variable {prog : Program} {w : World} {A₀ A : Around} {s : Shared} {base h₀ : Heap} {outer : List Env} {L : Addr} {m : Str → Option Value} {env : Env} {news : List (Addr × Obj)}
  {R : Result → Shared → Prop} {name qual : Str} {params : Arguments} {body : List Stmt} {scope : Scope} {dV kV doc pm cdv ct : Value} {an : Option Addr} {fo : Obj} {f : Addr} {args : Args} {binds : List (Str × Value)}
/-- a call of a function with cells, left by a turn -/
theorem callT_cells (B : Below A₀ base outer h₀) (F : Fr h₀ L s.heap m) (N : News h₀ L s.heap news) (hlim : h₀.NoLimit) (hA : A.frames = some (env :: outer)) (hf : env.frame = some L) (hke : env.scope.kind = .function)
    (ho : s.heap.get? f = some fo) (hd : fo.data = .func (fnX name qual params body scope [] dV kV doc pm an cdv ct)) (hcd : s.heap.CodeRec cdv qual) (hroom : A.depth < recursionLimit)
    (hbind : BindsTo s (fnX name qual params body scope [] dV kV doc pm an cdv ct) args binds)
    (hkind : ∀ n, ∀ x ∈ binds, scope.names.lookup x.1 = some .local ∨ (scope.names.lookup x.1 = some .cell ∧ ((cellsFrom n scope.names []).lookup x.1).isSome = true))
    (hnd : ((cellsFrom 0 scope.names []).map (·.1)).Nodup)
    (h : ∀ g L' h₁ tk cells, Fr h₀ L g m → Fr g L' h₁ (bindL (envOfC qual scope L' f cdv).kindOf binds fun _ => none) → News g L' h₁ (cells ++ news) →
      CellsAre (bindC (envOfC qual scope L' f cdv).kindOf binds fun _ => none) (cellsFrom (L' + 1) scope.names []) cells → Below A base (env :: outer) g → h₀.StaysIn g → (∀ p ∈ news, p.1 < L') →
      wpAny (model prog w) (A.deeper (envOfC qual scope L' f cdv)) (execs body (envOfC qual scope L' f cdv))
        (fun fl s' => LeaveT A₀ base env outer h₀ L m g R (match fl with | .ret v => v | _ => .none) s')
        (fun e s' => wpAny (model prog w) (A.deeper (envOfC qual scope L' f cdv)) (leaving (envOfC qual scope L' f cdv) e) (fun _ s'' => R (.error e) s'') (fun e' s'' => R (.error e') s'') s')
        { s with heap := h₁, toks := tk })
    (hco : scope.isCoroutine = false := by rfl) (hgen : scope.isGenerator = false := by rfl) (hk : scope.kind = .function := by rfl) : codeAny (model prog w) A (.call (.ref f) args) R s := by
  obtain ⟨FG, BG, st, _⟩ := groundX (R := R) B F N hA hf hke
  have low : ∀ p ∈ news, p.1 < s.heap.objs.size := fun p hp => Heap.lt_size (N p hp).1
  have old : ∀ b o, (hideAll s.heap (news.map (·.1))).get? b = some o → s.heap.get? b = some o := fun b o e => of_hideAll _ e
  refine codeAny_call_function hroom ho hd hco hgen rfl hcd (hbind _ _ _ _ (wpAny_newFunctionEnv_cells hk (hkind _) fun env' he s' x => ?_))
  subst he
  refine ⟨(hlim.keeps F.keep).keeps x.toInCall.keep, codeAny_func ?_⟩
  obtain ⟨h₁, tk, rfl, _⟩ := x.done
  have hk₁ := x.toInCall.keep
  obtain ⟨cells, NC, Y⟩ := Cl.news (h₀ := s.heap) (Nat.le_refl _) fun n c hm => ⟨x.cell n c (lookup_of_mem_nodup (cellsFrom_names scope.names 0 (s.heap.objs.size + 1) [] [] rfl ▸ hnd) hm), x.above n c hm⟩
  refine wpAny_mono (h _ s.heap.objs.size h₁ tk cells FG ⟨x.toInCall.ns, fun b o e => hk₁ b o (old b o e), Nat.le_of_eq (hideAll_size _ _)⟩ (fun p hp => (List.mem_append.mp hp).elim (fun hp => ⟨(NC p hp).1, (NC p hp).2.1, ?_⟩) (fun hp => ⟨hk₁ _ _ (N p hp).1, Nat.ne_of_lt (low p hp), hideAll_none _ (List.mem_map_of_mem hp)⟩)) Y BG st low) (fun fl s' hl => leaveT_done B FG hf hl) fun _ _ y => y
  cases q : (hideAll s.heap (news.map (·.1))).get? p.1 with
  | none => rfl
  | some o => exact absurd ((old _ _ q).symm.trans (NC p hp).2.2) (by simp)
end
section
variable {w : World} {p : Program} {loose : List Str} {mean : ExcName → Option Value} {mg mb : Str → Option Value} {dp un : Nat} {gd : Option (List Code)} {cn : Str} {cs : Scope} {a : Addr} {ccd : Value} {cl : List (Str × Addr)} {outer : List Env} {A₀ : Around} {base h₀ : Heap} {L : Addr} {m : Str → Option Value} {news rest : List (Addr × Obj)} {s : Shared} {Q E : Value → Shared → Prop}
theorem bindL_three {k : Str → Option NameKind} {a b c : Str} {x y z : Value} (ha : k a = some .local) (hb : k b = some .local) (hc : k c = some .local) :
    bindL k [(a, x), (b, y), (c, z)] (fun _ => none) = fun q => if q = c then some z else if q = b then some y else if q = a then some x else none := by
  simp only [bindL, ha, hb, hc, if_true]
theorem bindC_three {k : Str → Option NameKind} {a b c : Str} {x y z : Value} (ha : k a = some .local) (hb : k b = some .local) (hc : k c = some .local) :
    bindC k [(a, x), (b, y), (c, z)] (fun _ => none) = fun _ => none := by
  simp only [bindC, ha, hb, hc, if_true]
theorem cor_enter {x y z : Value} {R : Result → Shared → Prop} (C : Cx w p loose mean mg mb A₀ base outer h₀ L m s.heap news) (hD : Docs base) (hk : cs.kind = .function) (hd : dp < recursionLimit)
    (h : ∀ t g L' h₁ tk o1 o2, o1.data = .cell none → o2.data = .cell none → Fr h₀ L g m → Cx w p loose mean mg mb (ktrTop dp un gd cn cs L a ccd cl outer) base (envX cn cs L a ccd cl :: outer) g L' (fun q => if q = Str.ofString "method" then some z else if q = Str.ofString "y" then some y else if q = Str.ofString "x" then some x else none) h₁ ((L' + 1 + 1, o1) :: (L' + 1, o2) :: news) →
      (∀ q ∈ news, q.1 < L') →
      wpAny (model PySem.Challenge.pw_ij0047_01 w) ((ktrTop dp un gd cn cs L a ccd cl outer).deeper (envOfC (Str.ofString "correlation") (scOf (topSt 20)) L' 341 (.ref 340))) (execs (redocL t (sansDoc (bodyOf (topSt 20)))) (envOfC (Str.ofString "correlation") (scOf (topSt 20)) L' 341 (.ref 340)))
        (fun fl s' => LeaveT A₀ base (envX cn cs L a ccd cl) outer h₀ L m g R (match fl with | .ret v => v | _ => .none) s')
        (fun e s' => wpAny (model PySem.Challenge.pw_ij0047_01 w) ((ktrTop dp un gd cn cs L a ccd cl outer).deeper (envOfC (Str.ofString "correlation") (scOf (topSt 20)) L' 341 (.ref 340))) (leaving (envOfC (Str.ofString "correlation") (scOf (topSt 20)) L' 341 (.ref 340)) e) (fun _ s'' => R (.error e) s'') (fun e' s'' => R (.error e') s'') s')
        { s with heap := h₁, toks := tk }) :
    codeAny (model PySem.Challenge.pw_ij0047_01 w) (ktrTop dp un gd cn cs L a ccd cl outer) (.call (.ref 341) ⟨[x, y], [(Str.ofString "method", z)]⟩) R s := by
  obtain ⟨v, t, ho⟩ := (C.docs hD).cor
  refine callT_cells C.B C.F C.N C.T.nolimit rfl rfl hk ho rfl (codeRec_of (C.X.keeps C.F.keep) rfl) hd (cor_binds (C.X.keeps C.F.keep) x y z v t) (kindsX (by exact rfl)) (by decide +kernel) (fun g L' h₁ tk cells FG F' N' Y B' st lt => ?_) rfl rfl rfl
  rw [bindL_three rfl rfl rfl] at F'
  rw [bindC_three rfl rfl rfl] at Y
  cases Y with
  | cons d1 Y =>
    cases Y with
    | cons d2 Y =>
      cases Y
      exact h t g L' h₁ tk _ _ d1 d2 FG ⟨B', F', C.X.keeps st, N', C.T.keeps st, C.XB, C.TB⟩ lt
end

section
open PySem.Float64
set_option exponentiation.threshold 3000
set_option maxRecDepth 4000
/-- a finite float whose value is v / 256 -/
noncomputable def Ex (x : UInt64) (v : Int) : Prop := (∃ a m e, decode x = .fin a m e) ∧ val x = v * 2 ^ 1066
theorem Ex.finite {x : UInt64} {v : Int} (h : Ex x v) : isFinite x = true := by
  obtain ⟨⟨a, m, e, hd⟩, _⟩ := h
  unfold isFinite; rw [hd]
theorem V_hit {N : Nat} (h : N < 2 ^ 53) : ∃ t, V t = N * 2 ^ 1066 := by
  by_cases h0 : N = 0
  · exact ⟨0, by rw [h0, V_zero, Nat.zero_mul]⟩
  have hl := Nat.log2_lt (k := 53) h0 |>.2 h
  have hN : 2 ^ N.log2 ≤ N := Nat.log2_self_le h0
  have hN2 : N < 2 ^ (N.log2 + 1) := Nat.lt_log2_self
  have e1 : 52 - N.log2 + N.log2 = 52 := by omega
  have e2 : 52 - N.log2 + (N.log2 + 1) = 53 := by omega
  refine ⟨(1066 - (52 - N.log2)) * 2 ^ 52 + N * 2 ^ (52 - N.log2), ?_⟩
  rw [V_at]
  · rw [Nat.mul_assoc, ← Nat.pow_add]; congr 2; omega
  · have : N * 2 ^ (52 - N.log2) ≤ 2 ^ (52 - N.log2) * 2 ^ (N.log2 + 1) := by rw [Nat.mul_comm]; exact Nat.mul_le_mul_left _ (Nat.le_of_lt hN2)
    rwa [← Nat.pow_add, e2] at this
  · refine .inl ?_
    have : 2 ^ (52 - N.log2) * 2 ^ N.log2 ≤ 2 ^ (52 - N.log2) * N := Nat.mul_le_mul_left _ hN
    rw [← Nat.pow_add, e1] at this
    rwa [Nat.mul_comm N]
theorem dist_zero {a b : Nat} (h : dist a b = 0) : a = b := Nat.le_antisymm (Nat.le_of_sub_eq_zero (Nat.eq_zero_of_add_eq_zero h).1) (Nat.le_of_sub_eq_zero (Nat.eq_zero_of_add_eq_zero h).2)
theorem dist_self (a : Nat) : dist a a = 0 := by unfold dist; rw [Nat.sub_self]
theorem Ex.pack {neg : Bool} {t N : Nat} (ht : t < infMag) (hv : V t = N * 2 ^ 1066) : Ex (pack neg t) (sgn neg N) := by
  obtain ⟨m, e, hd, _⟩ := decode_pack neg ht
  refine ⟨⟨neg, m, e, hd⟩, ?_⟩
  rw [val_pack neg ht, hv, sgn_mul]
  norm_cast
theorem Ex.right {r : UInt64} {neg : Bool} {W D N : Nat} (h : Right r neg W D) (hD : 0 < D) (hW : W = N * 2 ^ 1066 * D) (hN : N < 2 ^ 53) : Ex r (sgn neg N) := by
  obtain ⟨t, rfl, _, hi, hn⟩ := h
  obtain ⟨t', ht'⟩ := V_hit hN
  have hb : ¬ t = infMag := by
    rw [hi, hW]
    intro hc
    have h1 : 2 * (N * 2 ^ 1066 * D) = D * (N * (2 * 2 ^ 1066)) := by
      rw [Nat.mul_comm D, ← Nat.mul_assoc, Nat.mul_left_comm 2 N]
    rw [h1] at hc
    have h2 := Nat.le_of_mul_le_mul_left hc hD
    have h3 : N * (2 * 2 ^ 1066) < 2 ^ 53 * (2 * 2 ^ 1066) := Nat.mul_lt_mul_of_pos_right hN (by decide +kernel)
    have h4 : 2 ^ 53 * (2 * 2 ^ 1066) ≤ (2 ^ 54 - 1) * 2 ^ 2045 := by decide +kernel
    exact absurd (Nat.lt_of_le_of_lt h2 h3) (Nat.not_lt.2 h4)
  have ht : t < infMag := by omega
  refine Ex.pack ht ?_
  have h5 := (hn ht t').1
  rw [ht', hW, Nat.mul_comm (N * 2 ^ 1066) D, dist_self] at h5
  exact (Nat.eq_of_mul_eq_mul_left hD (dist_zero (Nat.le_zero.1 h5))).symm
theorem Ex.zero (b : Bool) : Ex (zero b) 0 := by
  have h := Ex.pack (neg := b) (t := 0) (N := 0) (by decide) (by rw [V_zero, Nat.zero_mul])
  have e : sgn b 0 = 0 := by unfold sgn; cases b <;> rfl
  rwa [e] at h
theorem sgn_abs (v : Int) : sgn (decide (v < 0)) v.natAbs = v := by
  unfold sgn
  by_cases h : v < 0
  · simp only [h, decide_true, if_true]; omega
  · simp only [h, decide_false]; simp; omega
theorem Ex.add {x y : UInt64} {u v : Int} (hx : Ex x u) (hy : Ex y v) (hb : (u + v).natAbs < 2 ^ 53) : Ex (add x y) (u + v) := by
  obtain ⟨⟨a, m, e, hdx⟩, hvx⟩ := hx
  obtain ⟨⟨b, k, f, hdy⟩, hvy⟩ := hy
  have h := add_right hdx hdy
  have hs : val x + val y = (u + v) * 2 ^ 1066 := by rw [hvx, hvy, Int.add_mul]
  rw [hs] at h
  by_cases h0 : u + v = 0
  · rw [h.1 (by rw [h0, Int.zero_mul]), h0]; exact Ex.zero _
  · have hne : (u + v) * 2 ^ 1066 ≠ 0 := Int.mul_ne_zero h0 (by decide +kernel)
    have h2 := h.2 hne
    have hneg : decide ((u + v) * 2 ^ 1066 < 0) = decide (u + v < 0) := by
      refine decide_eq_decide.2 ⟨fun h => ?_, fun h => Int.mul_neg_of_neg_of_pos h (by decide +kernel)⟩
      exact Int.not_le.1 fun hc => absurd h (Int.not_lt.2 (Int.mul_nonneg hc (by decide +kernel)))
    rw [hneg] at h2
    have h3 := Ex.right h2 (N := (u + v).natAbs) (by decide) (by rw [Int.natAbs_mul, Nat.mul_one]; rfl) hb
    rwa [sgn_abs] at h3
theorem Ex.neg {x : UInt64} {u : Int} (hx : Ex x u) : Ex (neg x) (-u) := by
  obtain ⟨⟨a, m, e, hdx⟩, hvx⟩ := hx
  exact ⟨⟨_, _, _, neg_decode hdx⟩, by rw [neg_val hdx, hvx, Int.neg_mul]⟩
theorem Ex.sub {x y : UInt64} {u v : Int} (hx : Ex x u) (hy : Ex y v) (hb : (u - v).natAbs < 2 ^ 53) : Ex (sub x y) (u - v) := by
  have h := Ex.add hx hy.neg (by rwa [← Int.sub_eq_add_neg])
  rw [← Int.sub_eq_add_neg] at h
  unfold Float64.sub
  exact h
theorem val_sgn {x : UInt64} {a : Bool} {m : Nat} {e : Int} (h : decode x = .fin a m e) {u : Int} (hv : val x = u * 2 ^ 1066) : sgn a m * 2 ^ (e + 1074).toNat = u * 2 ^ 1066 := by
  rw [← hv, val_eq h, sgn_mul, Int.natCast_pow]; rfl
theorem sgn_xor (a b : Bool) (m k : Nat) : sgn (a != b) (m * k) = sgn a m * sgn b k := by
  cases a <;> cases b <;> simp [sgn, Int.neg_mul, Int.mul_neg]
theorem Ex.mul {x y : UInt64} {u v r : Int} (hx : Ex x u) (hy : Ex y v) (hr : u * v = r * 256) (hb : r.natAbs < 2 ^ 53) : Ex (mul x y) r := by
  obtain ⟨⟨a, m, e, hdx⟩, hvx⟩ := hx
  obtain ⟨⟨b, k, f, hdy⟩, hvy⟩ := hy
  have h := mul_right hdx hdy
  have hW : (val x).natAbs * (val y).natAbs = r.natAbs * 2 ^ 1066 * 2 ^ 1074 := by
    rw [← Int.natAbs_mul, hvx, hvy]
    have : u * 2 ^ 1066 * (v * 2 ^ 1066) = r * (256 * 2 ^ 1066 * 2 ^ 1066) := by
      rw [Int.mul_assoc, Int.mul_left_comm _ v, ← Int.mul_assoc, hr]; simp only [Int.mul_assoc]
    rw [this, Int.natAbs_mul]
    have e2 : (256 * 2 ^ 1066 * 2 ^ 1066 : Int).natAbs = 2 ^ 1066 * 2 ^ 1074 := by decide +kernel
    rw [e2, Nat.mul_assoc]
  have h3 := Ex.right h (by decide +kernel) hW hb
  have hsg : sgn (a != b) r.natAbs = r := by
    have h1 := val_sgn hdx hvx
    have h2 := val_sgn hdy hvy
    by_cases h0 : r = 0
    · subst h0; cases (a != b) <;> rfl
    have hp1 : (0 : Int) < 2 ^ (e + 1074).toNat := Int.pow_pos (by decide)
    have hp2 : (0 : Int) < 2 ^ (f + 1074).toNat := Int.pow_pos (by decide)
    have hp3 : (0 : Int) < 2 ^ 1066 := by decide +kernel
    generalize (2 : Int) ^ (e + 1074).toNat = P1 at *
    generalize (2 : Int) ^ (f + 1074).toNat = P2 at *
    generalize (2 : Int) ^ 1066 = P3 at *
    have hprod : sgn (a != b) (m * k) * (P1 * P2) = r * (256 * P3 * P3) := by
      rw [sgn_xor]
      have e1 : sgn a m * sgn b k * (P1 * P2) = (sgn a m * P1) * (sgn b k * P2) := by
        simp only [Int.mul_assoc, Int.mul_left_comm, Int.mul_comm]
      rw [e1, h1, h2]
      have e2 : u * P3 * (v * P3) = u * v * (P3 * P3) := by
        simp only [Int.mul_assoc, Int.mul_left_comm, Int.mul_comm]
      rw [e2, hr]; simp only [Int.mul_assoc]
    have hpos : 0 < P1 * P2 := Int.mul_pos hp1 hp2
    have hpos3 : 0 < 256 * P3 * P3 := Int.mul_pos (Int.mul_pos (by decide) hp3) hp3
    cases hab : (a != b)
    · rw [hab] at hprod
      have : 0 ≤ r * (256 * P3 * P3) := by rw [← hprod]; exact Int.mul_nonneg (by simp only [sgn]; exact Int.natCast_nonneg _) (Int.le_of_lt hpos)
      have : 0 ≤ r := Int.not_lt.1 fun hc => absurd (Int.mul_neg_of_neg_of_pos hc hpos3) (Int.not_lt.2 this)
      simp [sgn]; omega
    · rw [hab] at hprod
      have : r * (256 * P3 * P3) ≤ 0 := by rw [← hprod]; exact Int.mul_nonpos_of_nonpos_of_nonneg (by simp only [sgn, if_true]; exact Int.neg_nonpos_of_nonneg (Int.natCast_nonneg _)) (Int.le_of_lt hpos)
      have : r ≤ 0 := Int.not_lt.1 fun hc => absurd (Int.mul_pos hc hpos3) (Int.not_lt.2 this)
      simp [sgn]; omega
  rwa [hsg] at h3
theorem Ex.ofInt {i : Int} (hb : (i * 256).natAbs < 2 ^ 53) : Ex (ofInt i) (i * 256) := by
  have h := ofInt_right i
  have h3 := Ex.right h (N := (i * 256).natAbs) (by decide) (by rw [Int.natAbs_mul, Nat.mul_one, Nat.mul_assoc]; exact congrArg (i.natAbs * ·) (by decide +kernel)) hb
  have e : decide (i < 0) = decide (i * 256 < 0) := decide_eq_decide.2 (by omega)
  rw [e, sgn_abs] at h3
  exact h3
end
section
open PySem.Float64 PySem.Builtin.Math
set_option exponentiation.threshold 3000
set_option maxRecDepth 4000
theorem nn_add {e k : Int} (h : -k ≤ e) : 0 ≤ e + k := by have := Int.add_le_add_right h k; rwa [Int.add_left_neg] at this
theorem toNat_mid {p q : Int} (h : q ≤ p) (h0 : 0 ≤ q + 2148) : (p - q).toNat + (q + 2148).toNat = (p + 2148).toNat := by
  rw [← Int.toNat_add (Int.sub_nonneg.2 h) h0, ← Int.add_assoc, Int.sub_add_cancel]
theorem Ex.fma0 {x y z : UInt64} {u v r : Int} (hx : Ex x u) (hy : Ex y v) (hz : Ex z (-r)) (hr : u * v = r * 256) : Ex (fma x y z) 0 := by
  obtain ⟨⟨a, m, e, hdx⟩, hvx⟩ := hx
  obtain ⟨⟨b, k, f, hdy⟩, hvy⟩ := hy
  obtain ⟨⟨c, n, g, hdz⟩, hvz⟩ := hz
  have he := decode_ge hdx
  have hf := decode_ge hdy
  have hg := decode_ge hdz
  have h1 := val_sgn hdx hvx
  have h2 := val_sgn hdy hvy
  have h3 := val_sgn hdz hvz
  unfold fma
  rw [hdx, hdy, hdz]
  have key : sgn (a != b) (m * k * 2 ^ (e + f - min (e + f) g).toNat) + sgn c (n * 2 ^ (g - min (e + f) g).toNat) = 0 := by
    have hM : (0 : Int) < 2 ^ (min (e + f) g + 2148).toNat := Int.pow_pos (by decide)
    have a0 : (0 : Int) ≤ min (e + f) g + 2148 := nn_add (Int.le_min.2 ⟨Int.add_le_add he hf, Int.le_trans (by decide) hg⟩)
    have a1 : (e + f - min (e + f) g).toNat + (min (e + f) g + 2148).toNat = (e + 1074).toNat + (f + 1074).toNat := by
      rw [toNat_mid (Int.min_le_left _ _) a0, ← Int.toNat_add (nn_add he) (nn_add hf)]; congr 1; omega
    have a2 : (g - min (e + f) g).toNat + (min (e + f) g + 2148).toNat = (g + 1074).toNat + 1074 := by
      rw [toNat_mid (Int.min_le_right _ _) a0, show g + 2148 = (g + 1074) + 1074 from (Int.add_assoc g 1074 1074).symm, Int.toNat_add (nn_add hg) (by decide)]; rfl
    have b1 : sgn (a != b) (m * k * 2 ^ (e + f - min (e + f) g).toNat) * 2 ^ (min (e + f) g + 2148).toNat = r * 256 * (2 ^ 1066 * 2 ^ 1066) := by
      rw [sgn_mul, sgn_xor, Int.natCast_pow]
      show sgn a m * sgn b k * 2 ^ _ * 2 ^ _ = _
      rw [Int.mul_assoc, ← Int.pow_add, a1, Int.pow_add, ← hr]
      generalize (2 : Int) ^ 1066 = P at h1 h2 ⊢
      generalize (2 : Int) ^ (e + 1074).toNat = P1 at h1 ⊢
      generalize (2 : Int) ^ (f + 1074).toNat = P2 at h2 ⊢
      have e1 : sgn a m * sgn b k * (P1 * P2) = (sgn a m * P1) * (sgn b k * P2) := by
        simp only [Int.mul_assoc, Int.mul_left_comm, Int.mul_comm]
      rw [e1, h1, h2]
      simp only [Int.mul_assoc, Int.mul_left_comm, Int.mul_comm]
    have b2 : sgn c (n * 2 ^ (g - min (e + f) g).toNat) * 2 ^ (min (e + f) g + 2148).toNat = -r * 2 ^ 1066 * 2 ^ 1074 := by
      rw [sgn_mul, Int.natCast_pow]
      show sgn c n * 2 ^ _ * 2 ^ _ = _
      rw [Int.mul_assoc, ← Int.pow_add, a2, Int.pow_add, ← Int.mul_assoc, h3]
    have b3 : r * 256 * ((2 : Int) ^ 1066 * 2 ^ 1066) + -r * 2 ^ 1066 * 2 ^ 1074 = 0 := by
      have : (2 : Int) ^ 1074 = 256 * 2 ^ 1066 := by decide +kernel
      rw [this]
      generalize (2 : Int) ^ 1066 = P
      rw [Int.neg_mul, Int.neg_mul]
      have : r * 256 * (P * P) = r * P * (256 * P) := by simp only [Int.mul_assoc, Int.mul_left_comm, Int.mul_comm]
      rw [this]; exact Int.add_right_neg _
    rw [← b1, ← b2, ← Int.add_mul] at b3
    exact (Int.mul_eq_zero.1 b3).resolve_right (Int.ne_of_gt hM)
  have hb : ((align (a != b) (m * k) (e + f) c n g).1 + (align (a != b) (m * k) (e + f) c n g).2.1 == 0) = true := by simp only [align]; rw [key]; rfl
  refine (congrArg (fun z => Ex z 0) (if_pos hb)).mpr ?_
  exact Ex.zero _
theorem Ex.dlMul {x y : UInt64} {u v r : Int} (hx : Ex x u) (hy : Ex y v) (hr : u * v = r * 256) (hb : r.natAbs < 2 ^ 53) : Ex (dlMul x y).1 r ∧ Ex (dlMul x y).2 0 :=
  ⟨hx.mul hy hr hb, Ex.fma0 hx hy (hx.mul hy hr hb).neg hr⟩
theorem Ex.dlSum {x y : UInt64} {u v : Int} (hx : Ex x u) (hy : Ex y v) (hu : u.natAbs < 2 ^ 52) (hv : v.natAbs < 2 ^ 52) : Ex (dlSum x y).1 (u + v) ∧ Ex (dlSum x y).2 0 := by
  have hu' : u.natAbs < 2 ^ 53 := Nat.lt_trans hu (by decide)
  have hv' : v.natAbs < 2 ^ 53 := Nat.lt_trans hv (by decide)
  have h1 := hx.add hy (Ar.nadd hu hv (by decide))
  have h2 := h1.sub hx (by rw [Ar.cl]; exact hv')
  rw [Ar.cl] at h2
  have h0 := h1.sub h2 (by rw [Ar.cr]; exact hu')
  rw [Ar.cr] at h0
  have h3 := hx.sub h0 (by rw [Int.sub_self]; decide)
  have h4 := hy.sub h2 (by rw [Int.sub_self]; decide)
  rw [Int.sub_self] at h3 h4
  exact ⟨h1, h3.add h4 (by decide)⟩
theorem Ex.tlFma {x y : UInt64} {u v r a : Int} {t : UInt64 × UInt64 × UInt64} (hx : Ex x u) (hy : Ex y v) (h1 : Ex t.1 a) (h2 : Ex t.2.1 0) (h3 : Ex t.2.2 0)
    (hr : u * v = r * 256) (hb : r.natAbs < 2 ^ 52) (ha : a.natAbs < 2 ^ 52) : Ex (tlFma x y t).1 (a + r) ∧ Ex (tlFma x y t).2.1 0 ∧ Ex (tlFma x y t).2.2 0 := by
  have p := Ex.dlMul hx hy hr (by omega)
  have q := Ex.dlSum h1 p.1 ha hb
  have r1 := Ex.dlSum h2 p.2 (by decide) (by decide)
  have r2 := Ex.dlSum r1.1 q.2 (by decide) (by decide)
  have z : Ex (Float64.add t.2.2 (PySem.Builtin.Math.dlSum t.2.1 (PySem.Builtin.Math.dlMul x y).2).2) 0 := h3.add r1.2 (by decide)
  exact ⟨q.1, r2.1, z.add r2.2 (by decide)⟩
theorem Ex.tlToFloat {a : Int} {t : UInt64 × UInt64 × UInt64} (h1 : Ex t.1 a) (h2 : Ex t.2.1 0) (h3 : Ex t.2.2 0) (ha : a.natAbs < 2 ^ 52) : Ex (tlToFloat t) a := by
  have p := Ex.dlSum h2 h1 (by decide) ha
  have h := (h3.add p.2 (by decide)).add p.1 (by omega)
  have e : (0 : Int) + 0 + (0 + a) = a := by omega
  rwa [e] at h
/-- the sum of the products, as a number -/
noncomputable def dotI (a b : Nat → Int) : Nat → Int
  | 0 => 0
  | k + 1 => dotI a b k + a k * b k
theorem Ex.triple {fx fy : Nat → UInt64} {a b c : Nat → Int} {n : Nat} (hx : ∀ i, i < n → Ex (fx i) (a i)) (hy : ∀ i, i < n → Ex (fy i) (b i)) (hc : ∀ i, i < n → a i * b i = c i * 256)
    (hb : ∀ i, i < n → (c i).natAbs < 2 ^ 40) : ∀ k, k ≤ n → k ≤ 4096 → ∃ S, S * 256 = dotI a b k ∧ S.natAbs ≤ k * 2 ^ 40 ∧ Ex (tri fx fy k).1 S ∧ Ex (tri fx fy k).2.1 0 ∧ Ex (tri fx fy k).2.2 0
  | 0, _, _ => ⟨0, rfl, by decide, Ex.zero _, Ex.zero _, Ex.zero _⟩
  | k + 1, hk, hk2 => by
    obtain ⟨S, e, hS, h1, h2, h3⟩ := Ex.triple hx hy hc hb k (Nat.le_of_succ_le hk) (Nat.le_of_succ_le hk2)
    have hck := hb k hk
    obtain ⟨g1, g2, g3⟩ := Ex.tlFma (hx k hk) (hy k hk) h1 h2 h3 (hc k hk) (Nat.lt_trans hck (by decide)) (Nat.lt_of_le_of_lt hS (Nat.mul_lt_mul_of_pos_right hk2 (by decide : 0 < 2 ^ 40)))
    refine ⟨S + c k, ?_, Nat.le_trans (Int.natAbs_add_le _ _) (by rw [Nat.succ_mul]; exact Nat.add_le_add hS (Nat.le_of_lt hck)), g1, g2, g3⟩
    rw [Int.add_mul, e, ← hc k hk]; rfl
theorem Ex.sumprod {fx fy : Nat → UInt64} {a b c : Nat → Int} {n : Nat} (hx : ∀ i, i < n → Ex (fx i) (a i)) (hy : ∀ i, i < n → Ex (fy i) (b i)) (hc : ∀ i, i < n → a i * b i = c i * 256)
    (hb : ∀ i, i < n → (c i).natAbs < 2 ^ 40) (hn : n ≤ 4000) {S : Int} (hS : S * 256 = dotI a b n) :
    Ex (Float64.add (Float64.ofInt 0) (PySem.Builtin.Math.tlToFloat (tri fx fy n))) S ∧ ∀ k, k ≤ n → isFinite (tri fx fy k).1 = true := by
  obtain ⟨S', e, hS', h1, h2, h3⟩ := Ex.triple hx hy hc hb n (Nat.le_refl _) (by omega)
  have : S' = S := by omega
  subst this
  have h := (Ex.ofInt (i := 0) (by decide)).add (Ex.tlToFloat h1 h2 h3 (by omega)) (by omega)
  have e2 : (0 : Int) * 256 + S' = S' := by omega
  rw [e2] at h
  refine ⟨h, fun k hk => ?_⟩
  obtain ⟨_, _, _, h1, _⟩ := Ex.triple hx hy hc hb k hk (by omega)
  exact h1.finite
theorem V_inj {t t' : Nat} (h : V t = V t') : t = t' := by
  rcases Nat.lt_trichotomy t t' with hl | rfl | hl
  · have := V_lt hl; omega
  · rfl
  · have := V_lt hl; omega
theorem Ex.sqrt {x : UInt64} {s : Nat} {v : Int} (hx : Ex x v) (hv : v * 256 = (s : Int) * s) (hs : 0 < s) (hb : s < 2 ^ 53) : Ex (sqrt x) s := by
  obtain ⟨⟨a, m, e, hdx⟩, hvx⟩ := hx
  have hp3 : (0 : Int) < 2 ^ 1066 := by decide +kernel
  have hvpos : 0 < v := by have : (0 : Int) < (s : Int) * s := Int.mul_pos (by omega) (by omega); omega
  have hpos : 0 < val x := by rw [hvx]; exact Int.mul_pos hvpos hp3
  have hsg := val_eq hdx
  have ha : a = false := by
    cases a
    · rfl
    · rw [hsg] at hpos; simp only [sgn, if_true] at hpos; omega
  subst ha
  have hm : m ≠ 0 := by
    rintro rfl
    rw [hsg] at hpos; simp [sgn] at hpos
  obtain ⟨t, e1, ht, hup, hdn⟩ := sqrt_right hdx hm
  obtain ⟨t0, ht0⟩ := V_hit hb
  have hval : (val x).natAbs * 2 ^ 1074 = V t0 * V t0 := by
    rw [ht0]
    have h1 : ((val x).natAbs : Int) * 2 ^ 1074 = ((s : Int) * 2 ^ 1066) * ((s : Int) * 2 ^ 1066) := by
      rw [Int.natAbs_of_nonneg (Int.le_of_lt hpos), hvx]
      have : (2 : Int) ^ 1074 = 256 * 2 ^ 1066 := by decide +kernel
      rw [this]
      generalize (2 : Int) ^ 1066 = P
      have e1 : v * P * (256 * P) = v * 256 * (P * P) := by simp only [Int.mul_assoc, Int.mul_left_comm, Int.mul_comm]
      rw [e1, hv]
      simp only [Int.mul_assoc, Int.mul_left_comm, Int.mul_comm]
    have h2 : (((val x).natAbs * 2 ^ 1074 : Nat) : Int) = ((s * 2 ^ 1066 * (s * 2 ^ 1066) : Nat) : Int) := by
      rw [Int.natCast_mul, Int.natCast_mul, Int.natCast_mul, Int.natCast_pow, Int.natCast_pow]; exact h1
    exact Int.ofNat.inj h2
  have hV : V t = V t0 := by
    rcases Nat.lt_trichotomy t t0 with hl | rfl | hl
    · have h1 := hup t0 hl
      have h2 := V_lt hl
      rw [hval] at h1
      have h3 : (V t + V t0) * (V t + V t0) < (2 * V t0) * (2 * V t0) := Nat.mul_lt_mul'' (by omega) (by omega)
      have h4 : (2 * V t0) * (2 * V t0) = 4 * (V t0 * V t0) := by rw [Nat.mul_mul_mul_comm]
      omega
    · rfl
    · have h1 := hdn t0 hl
      have h2 := V_lt hl
      rw [hval] at h1
      have h3 : (2 * V t0) * (2 * V t0) < (V t + V t0) * (V t + V t0) := Nat.mul_lt_mul'' (by omega) (by omega)
      have h4 : (2 * V t0) * (2 * V t0) = 4 * (V t0 * V t0) := by rw [Nat.mul_mul_mul_comm]
      omega
  rw [e1]
  have h := Ex.pack (neg := false) ht (hV.trans ht0)
  exact h
theorem dist_mul' (m a b : Nat) : dist (m * a) (m * b) = m * dist a b := dist_mul m a b
theorem hi_aux {W D W' D' : Nat} (hD : 0 < D) (hD' : 0 < D') (hW : W * D' = W' * D) (K : Nat) : (D * K ≤ 2 * W) ↔ (D' * K ≤ 2 * W') := by
  constructor
  · intro h
    refine Nat.le_of_mul_le_mul_left (c := D) ?_ hD
    have := Nat.mul_le_mul_left D' h
    rw [Nat.mul_left_comm D' D, Nat.mul_left_comm D' 2, Nat.mul_comm D' W, hW, Nat.mul_comm W' D, Nat.mul_left_comm 2 D] at this
    exact this
  · intro h
    refine Nat.le_of_mul_le_mul_left (c := D') ?_ hD'
    have := Nat.mul_le_mul_left D h
    rw [Nat.mul_left_comm D D', Nat.mul_left_comm D 2, Nat.mul_comm D W', ← hW, Nat.mul_comm W D', Nat.mul_left_comm 2 D'] at this
    exact this
theorem dist_mid {w x y z : Nat} (h1 : x < y) (h2 : y < z) (he : dist w x = dist w z) (h3 : dist w x ≤ dist w y) : False := by
  unfold dist at he h3
  rcases Nat.lt_or_ge y w with h | h
  · rw [Nat.sub_eq_zero_of_le (Nat.le_of_lt h), Nat.sub_eq_zero_of_le (Nat.le_of_lt (Nat.lt_trans h1 h)), Nat.add_zero, Nat.add_zero] at h3
    exact absurd (Nat.sub_lt_sub_left (Nat.lt_trans h1 h) h1) (Nat.not_lt.2 h3)
  · rw [he, Nat.sub_eq_zero_of_le h, Nat.sub_eq_zero_of_le (Nat.le_trans h (Nat.le_of_lt h2)), Nat.zero_add, Nat.zero_add] at h3
    exact absurd (Nat.sub_lt_sub_right h h2) (Nat.not_lt.2 h3)
theorem right_unique {W D W' D' t t' : Nat} (hD : 0 < D) (hD' : 0 < D') (hW : W * D' = W' * D)
    (h : t ≤ infMag ∧ (t = infMag ↔ D * ((2 ^ 54 - 1) * 2 ^ 2045) ≤ 2 * W) ∧ (t < infMag → ∀ t', dist W (D * V t) ≤ dist W (D * V t') ∧ (V t' ≠ V t → dist W (D * V t) = dist W (D * V t') → t % 2 = 0)))
    (h' : t' ≤ infMag ∧ (t' = infMag ↔ D' * ((2 ^ 54 - 1) * 2 ^ 2045) ≤ 2 * W') ∧ (t' < infMag → ∀ s, dist W' (D' * V t') ≤ dist W' (D' * V s) ∧ (V s ≠ V t' → dist W' (D' * V t') = dist W' (D' * V s) → t' % 2 = 0))) : t = t' := by
  have hi := hi_aux hD hD' hW ((2 ^ 54 - 1) * 2 ^ 2045)
  by_cases hinf : t = infMag
  · rw [hinf, (h'.2.1.2 (hi.1 (h.2.1.1 hinf)))]
  have hinf' : ¬ t' = infMag := fun hc => hinf (h.2.1.2 (hi.2 (h'.2.1.1 hc)))
  have g := h.2.2 (by omega)
  have g' := h'.2.2 (by omega)
  have sc : ∀ s, D' * dist W (D * V s) = D * dist W' (D' * V s) := fun s => by
    rw [← dist_mul, ← dist_mul, Nat.mul_comm D' W, hW, Nat.mul_comm W' D, Nat.mul_left_comm D' D]
  have eqd : dist W (D * V t) = dist W (D * V t') := by
    refine Nat.le_antisymm (g t').1 (Nat.le_of_mul_le_mul_left (c := D') ?_ hD')
    rw [sc, sc]; exact Nat.mul_le_mul_left _ (g' t).1
  have eqd' : dist W' (D' * V t') = dist W' (D' * V t) := by
    refine Nat.eq_of_mul_eq_mul_left hD ?_
    rw [← sc, ← sc, eqd]
  by_cases hv : V t' = V t
  · exact (V_inj hv).symm
  have ev := (g t').2 hv eqd
  have ev' := (g' t).2 (fun e => hv e.symm) eqd'
  have mid : ∀ a b, a < b → a % 2 = 0 → b % 2 = 0 → dist W (D * V a) = dist W (D * V b) → (∀ s, dist W (D * V a) ≤ dist W (D * V s)) → False := by
    intro a b hab ha hb he hmin
    have h1 : V a < V (a + 1) := V_lt (by omega)
    have h2 : V (a + 1) < V b := V_lt (by omega)
    have h3 := hmin (a + 1)
    have k1 : D * V a < D * V (a + 1) := Nat.mul_lt_mul_of_pos_left h1 hD
    have k2 : D * V (a + 1) < D * V b := Nat.mul_lt_mul_of_pos_left h2 hD
    exact dist_mid k1 k2 he h3
  rcases Nat.lt_or_gt_of_ne (fun e : t = t' => hv (by rw [e])) with hl | hl
  · exact (mid t t' hl ev ev' eqd fun s => (g s).1).elim
  · refine (mid t' t hl ev' ev eqd.symm fun s => ?_).elim
    rw [← eqd]; exact (g s).1
theorem inf_not {neg a : Bool} {m : Nat} {e : Int} (h : decode (pack neg infMag) = .fin a m e) : False := by
  have hn : (pack neg infMag).toNat / 2 ^ 52 % 2048 = 2047 := by
    rw [pack_toNat neg (by unfold infMag; omega)]
    unfold infMag
    cases neg <;> simp
  unfold decode at h
  simp only [hn, beq_self_eq_true, if_true] at h
  split at h <;> cases h
/-- x is n / d, rounded -/
noncomputable def Rd (x : UInt64) (n : Int) (d : Nat) : Prop := 0 < d ∧ (∃ a m e, decode x = .fin a m e) ∧ ∃ neg W D, 0 < D ∧ Right x neg W D ∧ sgn neg W * d = n * 2 ^ 1074 * D
theorem Rd.eq {x y : UInt64} {n n' : Int} {d d' : Nat} (h : Rd x n d) (h' : Rd y n' d') (he : n * d' = n' * d) : cmp x y = some .eq := by
  obtain ⟨hd, ⟨_, _, _, dx⟩, neg, W, D, hD, ⟨t, rfl, R⟩, hs⟩ := h
  obtain ⟨hd', ⟨_, _, _, dy⟩, neg', W', D', hD', ⟨t', rfl, R'⟩, hs'⟩ := h'
  have hp : (0 : Int) < 2 ^ 1074 := by decide +kernel
  have hcr : sgn neg W * D' = sgn neg' W' * D := by
    have h1 : sgn neg W * D' * (d * d') = sgn neg' W' * D * (d * d') := by
      have a1 : sgn neg W * D' * (d * d') = (sgn neg W * d) * (D' * d') := by simp only [Int.mul_assoc, Int.mul_left_comm, Int.mul_comm]
      have a2 : sgn neg' W' * D * (d * d') = (sgn neg' W' * d') * (D * d) := by simp only [Int.mul_assoc, Int.mul_left_comm, Int.mul_comm]
      rw [a1, a2, hs, hs']
      generalize (2 : Int) ^ 1074 = P
      have a3 : n * P * D * (D' * d') = (n * d') * (P * D * D') := by simp only [Int.mul_assoc, Int.mul_left_comm, Int.mul_comm]
      have a4 : n' * P * D' * (D * d) = (n' * d) * (P * D * D') := by simp only [Int.mul_assoc, Int.mul_left_comm, Int.mul_comm]
      rw [a3, a4, he]
    exact Int.eq_of_mul_eq_mul_right (Int.ne_of_gt (Int.mul_pos (by omega) (by omega))) h1
  have habs : W * D' = W' * D := by
    have := congrArg Int.natAbs hcr
    rwa [Int.natAbs_mul, Int.natAbs_mul, sgn_natAbs, sgn_natAbs, Int.natAbs_natCast, Int.natAbs_natCast] at this
  have htt := right_unique hD hD' habs R R'
  subst htt
  have hti : t < infMag := by
    refine Nat.lt_of_le_of_ne R.1 fun e => ?_
    rw [e] at dx
    exact inf_not dx
  have hval : val (pack neg t) = val (pack neg' t) := by
    clear hs hs'
    rw [val_pack neg hti, val_pack neg' hti]
    by_cases hW : W = 0
    · have h0 := (R.2.2 hti 0).1
      rw [hW, V_zero, Nat.mul_zero, dist_self] at h0
      have h1 := dist_zero (Nat.le_zero.1 h0)
      have h2 : V t = 0 := by
        rcases Nat.mul_eq_zero.1 h1.symm with h | h
        · omega
        · exact h
      rw [h2]; cases neg <;> cases neg' <;> rfl
    · have hW' : W' ≠ 0 := by
        rintro rfl
        rw [Nat.zero_mul] at habs
        rcases Nat.mul_eq_zero.1 habs with h | h <;> omega
      have hp1 : (0 : Int) < (W * D' : Nat) := by have := Nat.mul_pos (Nat.pos_of_ne_zero hW) hD'; omega
      have hp2 : (0 : Int) < (W' * D : Nat) := by have := Nat.mul_pos (Nat.pos_of_ne_zero hW') hD; omega
      rw [Int.natCast_mul] at hp1 hp2
      cases neg <;> cases neg' <;> first
        | rfl
        | (simp only [sgn, if_true] at hcr; rw [Int.neg_mul] at hcr; simp at hcr; omega)
  rw [cmp_right dx dy, hval]
  simp
end
section
open PySem.Float64 PySem.Builtin.Math
set_option exponentiation.threshold 3000
set_option maxRecDepth 4000
theorem lt_inf {t W D K : Nat} (h : t ≤ infMag) (hi : t = infMag ↔ D * K ≤ 2 * W) (hK : 2 * W < D * K) : t < infMag := by
  have : ¬ t = infMag := fun e => absurd (hi.1 e) (by omega)
  omega
theorem fin_pack (neg : Bool) {t : Nat} (h : t < infMag) : ∃ a m e, decode (pack neg t) = .fin a m e := by
  obtain ⟨m, e, hd, _⟩ := decode_pack neg h
  exact ⟨_, _, _, hd⟩
theorem big1 : 2 * (2 ^ 53 * 2 ^ 1074) < (2 ^ 54 - 1) * 2 ^ 2045 := by decide +kernel
theorem Rd.frac {a b : Int} (hb : 0 < b) (ha : a.natAbs < 2 ^ 53) : Rd (ofFrac ((a < 0) != (b < 0)) a.natAbs b.natAbs) a b.natAbs := by
  have hb' : 0 < b.natAbs := by omega
  have h := ofFrac_right (neg := ((a < 0) != (b < 0))) (n := a.natAbs) (d := b.natAbs) (W := a.natAbs * 2 ^ 1074) (D := b.natAbs) hb' rfl hb'
  refine ⟨hb', ?_, _, _, _, hb', h, ?_⟩
  · obtain ⟨t, e, ht, hi, _⟩ := h
    rw [e]
    refine fin_pack _ (lt_inf ht hi ?_)
    have h1 : 2 * (a.natAbs * 2 ^ 1074) ≤ 2 * (2 ^ 53 * 2 ^ 1074) := Nat.mul_le_mul_left _ (Nat.mul_le_mul_right _ (Nat.le_of_lt ha))
    exact Nat.lt_of_lt_of_le (Nat.lt_of_le_of_lt h1 big1) (Nat.le_mul_of_pos_left _ hb')
  · have e : ((a < 0) != (b < 0)) = decide (a < 0) := by
      have : decide (b < 0) = false := decide_eq_false (by omega)
      rw [this]; cases decide (a < 0) <;> rfl
    rw [e, sgn_mul, sgn_abs, Int.natCast_pow]; rfl
theorem Rd.div {x y : UInt64} {u v : Int} (hx : Ex x u) (hy : Ex y v) (hv : 0 < v) (hu : u.natAbs < 2 ^ 53) : Rd (div x y) u v.natAbs := by
  obtain ⟨⟨a, m, e, hdx⟩, hvx⟩ := hx
  obtain ⟨⟨b, k, f, hdy⟩, hvy⟩ := hy
  have hp3 : (0 : Int) < 2 ^ 1066 := by decide +kernel
  have hpos : 0 < val y := by rw [hvy]; exact Int.mul_pos hv hp3
  have hk : k ≠ 0 := by
    rintro rfl
    rw [val_eq hdy] at hpos; simp [sgn] at hpos
  have hbf : b = false := by
    cases b
    · rfl
    · rw [val_eq hdy] at hpos; simp only [sgn, if_true] at hpos; omega
  subst hbf
  have h := div_right hdx hdy hk
  have hv' : 0 < v.natAbs := Ar.nap hv
  have hW : (val x).natAbs = u.natAbs * 2 ^ 1066 := by rw [hvx, Int.natAbs_mul]; rfl
  have hD : (val y).natAbs = v.natAbs * 2 ^ 1066 := by rw [hvy, Int.natAbs_mul]; rfl
  have hDp : 0 < (val y).natAbs := Ar.nap hpos
  refine ⟨hv', ?_, _, _, _, hDp, h, ?_⟩
  · obtain ⟨t, e, ht, hi, _⟩ := h
    rw [e]
    refine fin_pack _ (lt_inf ht hi ?_)
    rw [hW, hD]
    have h1 : 2 * (u.natAbs * 2 ^ 1066 * 2 ^ 1074) ≤ 2 ^ 1066 * (2 * (2 ^ 53 * 2 ^ 1074)) := by
      have : 2 * (u.natAbs * 2 ^ 1066 * 2 ^ 1074) = u.natAbs * (2 ^ 1066 * (2 * 2 ^ 1074)) := by simp only [Nat.mul_assoc, Nat.mul_left_comm, Nat.mul_comm]
      rw [this]
      have : 2 ^ 1066 * (2 * (2 ^ 53 * 2 ^ 1074)) = 2 ^ 53 * (2 ^ 1066 * (2 * 2 ^ 1074)) := by simp only [Nat.mul_assoc, Nat.mul_left_comm, Nat.mul_comm]
      rw [this]
      exact Nat.mul_le_mul_right _ (Nat.le_of_lt hu)
    refine Nat.lt_of_le_of_lt h1 (Nat.lt_of_lt_of_le (Nat.mul_lt_mul_of_pos_left big1 (by decide +kernel)) ?_)
    rw [Nat.mul_assoc]
    exact Nat.le_mul_of_pos_left _ hv'
  · have hsx := val_sgn hdx hvx
    have hP1 : (0 : Int) < 2 ^ (e + 1074).toNat := Int.pow_pos (by decide)
    have hu' : sgn a u.natAbs = u := by
      by_cases h0 : u = 0
      · subst h0; cases a <;> rfl
      generalize (2 : Int) ^ 1066 = P at hsx hp3
      generalize (2 : Int) ^ (e + 1074).toNat = P1 at hsx hP1
      cases a
      · have : 0 ≤ u * P := by rw [← hsx]; exact Int.mul_nonneg (by simp only [sgn]; exact Int.natCast_nonneg _) (Int.le_of_lt hP1)
        have : 0 ≤ u := Int.not_lt.1 fun hc => absurd (Int.mul_neg_of_neg_of_pos hc hp3) (Int.not_lt.2 this)
        exact Int.natAbs_of_nonneg this
      · have : u * P ≤ 0 := by rw [← hsx]; exact Int.mul_nonpos_of_nonpos_of_nonneg (by simp only [sgn, if_true]; exact Int.neg_nonpos_of_nonneg (Int.natCast_nonneg _)) (Int.le_of_lt hP1)
        have : u ≤ 0 := Int.not_lt.1 fun hc => absurd (Int.mul_pos hc hp3) (Int.not_lt.2 this)
        show -((u.natAbs : Nat) : Int) = u
        rw [Int.ofNat_natAbs_of_nonpos this, Int.neg_neg]
    have e1 : (a != false) = a := by cases a <;> rfl
    have e2 : ((v.natAbs : Nat) : Int) = v := Int.natAbs_of_nonneg (Int.le_of_lt hv)
    rw [e1, hW, sgn_mul, sgn_mul, hu', hD, Int.natCast_mul, e2, Int.natCast_pow, Int.natCast_pow]
    simp only [Int.mul_assoc, Int.mul_left_comm, Int.mul_comm]
    rfl
theorem Ex.sign {x : UInt64} {u : Int} {a : Bool} {m : Nat} {e : Int} (hdx : decode x = .fin a m e) (hvx : val x = u * 2 ^ 1066) (h0 : u ≠ 0) : a = decide (u < 0) := by
  have hsx := val_sgn hdx hvx
  have hp3 : (0 : Int) < 2 ^ 1066 := by decide +kernel
  have hP1 : (0 : Int) < 2 ^ (e + 1074).toNat := Int.pow_pos (by decide)
  generalize (2 : Int) ^ 1066 = P at hsx hp3
  generalize (2 : Int) ^ (e + 1074).toNat = P1 at hsx hP1
  cases a
  · have : 0 ≤ u * P := by rw [← hsx]; exact Int.mul_nonneg (by simp only [sgn]; exact Int.natCast_nonneg _) (Int.le_of_lt hP1)
    have : 0 ≤ u := Int.not_lt.1 fun hc => absurd (Int.mul_neg_of_neg_of_pos hc hp3) (Int.not_lt.2 this)
    exact (decide_eq_false (by omega)).symm
  · have : u * P ≤ 0 := by rw [← hsx]; exact Int.mul_nonpos_of_nonpos_of_nonneg (by simp only [sgn, if_true]; exact Int.neg_nonpos_of_nonneg (Int.natCast_nonneg _)) (Int.le_of_lt hP1)
    have : u ≤ 0 := Int.not_lt.1 fun hc => absurd (Int.mul_pos hc hp3) (Int.not_lt.2 this)
    exact (decide_eq_true (by omega)).symm
theorem Ex.div {x y : UInt64} {u v q : Int} (hx : Ex x u) (hy : Ex y v) (hv : 0 < v) (hq : u * 256 = q * v) (hb : q.natAbs < 2 ^ 53) : Ex (div x y) q := by
  obtain ⟨⟨a, m, e, hdx⟩, hvx⟩ := hx
  obtain ⟨⟨b, k, f, hdy⟩, hvy⟩ := hy
  have hp3 : (0 : Int) < 2 ^ 1066 := by decide +kernel
  have hpos : 0 < val y := by rw [hvy]; exact Int.mul_pos hv hp3
  have hk : k ≠ 0 := by
    rintro rfl
    rw [val_eq hdy] at hpos; simp [sgn] at hpos
  have hbf : b = false := by rw [Ex.sign hdy hvy (Int.ne_of_gt hv)]; exact decide_eq_false (Int.not_lt.2 (Int.le_of_lt hv))
  subst hbf
  have hW : (val x).natAbs = u.natAbs * 2 ^ 1066 := by rw [hvx, Int.natAbs_mul]; rfl
  have hD : (val y).natAbs = v.natAbs * 2 ^ 1066 := by rw [hvy, Int.natAbs_mul]; rfl
  have hqn : u.natAbs * 256 = q.natAbs * v.natAbs := by
    have := congrArg Int.natAbs hq
    rwa [Int.natAbs_mul, Int.natAbs_mul] at this
  have h := Ex.right (N := q.natAbs) (div_right hdx hdy hk) (Ar.nap hpos) (by
    rw [hW, hD]
    have e1 : u.natAbs * 2 ^ 1066 * 2 ^ 1074 = u.natAbs * 256 * (2 ^ 1066 * 2 ^ 1066) := by
      have : 2 ^ 1074 = 256 * 2 ^ 1066 := by decide +kernel
      rw [this]; simp only [Nat.mul_assoc, Nat.mul_left_comm, Nat.mul_comm]
    rw [e1, hqn]; simp only [Nat.mul_assoc, Nat.mul_left_comm, Nat.mul_comm]) hb
  have hs : sgn (a != false) q.natAbs = q := by
    by_cases h0 : u = 0
    · subst h0
      rw [Int.zero_mul] at hq
      have : q = 0 := (Int.mul_eq_zero.1 hq.symm).resolve_right (Int.ne_of_gt hv)
      subst this; cases (a != false) <;> rfl
    · have e1 : (a != false) = decide (q < 0) := by
        rw [Ex.sign hdx hvx h0]
        have : decide (u < 0) = decide (q < 0) := by
          refine decide_eq_decide.2 ⟨fun h => ?_, fun h => ?_⟩
          · refine Int.not_le.1 fun hc => ?_
            have := Int.mul_nonneg hc (Int.le_of_lt hv); omega
          · have := Int.mul_neg_of_neg_of_pos h hv; omega
        rw [this]; cases decide (q < 0) <;> rfl
      rw [e1, sgn_abs]
  rwa [hs] at h
theorem cmp_mul {u v P : Int} (hP : 0 < P) : compare (u * P) (v * P) = compare u v := by
  have hlt : u * P < v * P ↔ u < v := Int.mul_lt_mul_right hP
  have heq : u * P = v * P ↔ u = v := ⟨fun h => Int.eq_of_mul_eq_mul_right (by omega) h, fun h => by rw [h]⟩
  simp only [compare, compareOfLessAndEq, hlt, heq]
theorem Ex.cmp {x y : UInt64} {u v : Int} (hx : Ex x u) (hy : Ex y v) : cmp x y = some (compare u v) := by
  obtain ⟨⟨a, m, e, hdx⟩, hvx⟩ := hx
  obtain ⟨⟨b, k, f, hdy⟩, hvy⟩ := hy
  rw [cmp_right hdx hdy, hvx, hvy]
  have hp3 : (0 : Int) < 2 ^ 1066 := by decide +kernel
  rw [cmp_mul hp3]
theorem Ex.cmpInt {x : UInt64} {u : Int} (hx : Ex x u) (i : Int) : cmpInt x i = some (compare u (i * 256)) := by
  obtain ⟨⟨a, m, e, hdx⟩, hvx⟩ := hx
  rw [cmpInt_right hdx, hvx]
  have hp3 : (0 : Int) < 2 ^ 1066 := by decide +kernel
  have e3 : (2 : Int) ^ 1074 = 256 * 2 ^ 1066 := by decide +kernel
  rw [e3, ← Int.mul_assoc]
  rw [cmp_mul hp3]
end

section
/-- p turns the numbers below n among themselves -/
structure Bij (n : Nat) (p : Nat → Nat) : Prop where
  lt : ∀ i, i < n → p i < n
  inj : ∀ i j, i < n → j < n → p i = p j → i = j
  sur : ∀ k, k < n → ∃ i, i < n ∧ p i = k
theorem rk_bij {n : Nat} {key : Nat → Array UInt8} (hk : ∀ i j, i < n → j < n → key i = key j → i = j) (hn : 1 ≤ n) : Bij n (rk n key) :=
  ⟨fun i hi => rk_lt i hi, rk_inj hk, fun k h => ⟨_, (sort_places hk hn).2 k h⟩⟩
noncomputable def sumI (f : Nat → Int) : Nat → Int
  | 0 => 0
  | k + 1 => sumI f k + f k
theorem sumI_list (f : Nat → Int) : ∀ n, sumI f n = ((List.range n).map f).sum
  | 0 => rfl
  | n + 1 => by
    rw [List.range_succ, List.map_append, List.sum_append_int, ← sumI_list f n]; simp [sumI]
theorem sumI_congr {f g : Nat → Int} : ∀ n, (∀ i, i < n → f i = g i) → sumI f n = sumI g n
  | 0, _ => rfl
  | n + 1, h => by unfold sumI; rw [sumI_congr n fun i hi => h i (by omega), h n (by omega)]
theorem perm_sumI {l1 l2 : List Int} (h : l1.Perm l2) : l1.sum = l2.sum := by
  induction h with
  | nil => rfl
  | cons x _ ih => simp [ih]
  | swap x y l => simp; omega
  | trans _ _ h1 h2 => exact h1.trans h2
theorem sumI_perm {n : Nat} {p : Nat → Nat} (B : Bij n p) (f : Nat → Int) : sumI (fun i => f (p i)) n = sumI f n := by
  rw [sumI_list, sumI_list]
  have e : (List.range n).map (fun i => f (p i)) = ((List.range n).map p).map f := by simp
  rw [e]
  refine perm_sumI (List.Perm.map f ?_)
  refine (List.perm_ext_iff_of_nodup ?_ List.nodup_range).2 fun a => ?_
  · unfold List.Nodup
    rw [List.pairwise_map]
    have h := List.nodup_range (n := n)
    unfold List.Nodup at h
    refine (List.Pairwise.and_mem.1 h).imp fun {a b} ⟨ha, hb, hab⟩ e => hab (B.inj a b (List.mem_range.1 ha) (List.mem_range.1 hb) e)
  · simp only [List.mem_map, List.mem_range]
    exact ⟨fun ⟨i, hi, e⟩ => e ▸ B.lt i hi, fun h => B.sur a h⟩
/-- twice the place, from the middle -/
noncomputable def cen (n k : Nat) : Int := 2 * (k : Int) - ((n : Int) - 1)
noncomputable def DD (n : Nat) (p q : Nat → Nat) : Int := sumI (fun i => cen n (p i) * cen n (q i)) n
noncomputable def AA (n : Nat) (p q : Nat → Nat) : Int := sumI (fun i => ((p i : Int) - (q i : Int)) * ((p i : Int) - (q i : Int))) n
theorem cube_go (c : Int) : ∀ m : Nat, 3 * sumI (fun k => (2 * (k : Int) - c) * (2 * (k : Int) - c)) m = 2 * ((m : Int) - 1) * m * (2 * m - 1) - 6 * c * m * (m - 1) + 3 * m * c * c
  | 0 => by simp [sumI]
  | m + 1 => by
    have h := cube_go c m
    unfold sumI
    push_cast
    grind
theorem cube3 (n : Nat) : 3 * sumI (fun k => cen n k * cen n k) n = (n : Int) * n * n - n := by
  have h := cube_go ((n : Int) - 1) n
  unfold cen
  grind
theorem DD_self {n : Nat} {p : Nat → Nat} (B : Bij n p) : 3 * DD n p p = (n : Int) * n * n - n := by
  rw [← cube3]; unfold DD; rw [sumI_perm B fun k => cen n k * cen n k]
theorem spear_go (n : Nat) (p q : Nat → Nat) : ∀ m, 2 * sumI (fun i => cen n (p i) * cen n (q i)) m = sumI (fun i => cen n (p i) * cen n (p i)) m + sumI (fun i => cen n (q i) * cen n (q i)) m - 4 * sumI (fun i => ((p i : Int) - (q i : Int)) * ((p i : Int) - (q i : Int))) m
  | 0 => by simp [sumI]
  | m + 1 => by
    have h := spear_go n p q m
    unfold sumI
    unfold cen at *
    grind
/-- Spearman -/
theorem spear {n : Nat} {p q : Nat → Nat} (P : Bij n p) (R : Bij n q) : 3 * DD n p q = (n : Int) * n * n - n - 6 * AA n p q := by
  exact Ar.spearL (spear_go n p q n) (DD_self P) (DD_self R)
theorem cen_abs {n k : Nat} (hk : k < n) (hn : n < 64) : (cen n k).natAbs < 64 := Ar.cenA hk hn
theorem dotI_scale {a b : Nat → Int} {c : Int} {f g : Nat → Int} : ∀ n, (∀ i, i < n → a i = c * f i) → (∀ i, i < n → b i = c * g i) → dotI a b n = c * c * sumI (fun i => f i * g i) n
  | 0, _, _ => by simp [dotI, sumI]
  | n + 1, h1, h2 => by
    have h := dotI_scale n (fun i hi => h1 i (by omega)) fun i hi => h2 i (by omega)
    unfold dotI sumI
    rw [h, h1 n (by omega), h2 n (by omega)]
    grind
/-- the sum of products of centered ranks, computed -/
theorem sum_ranks {n : Nat} {p q : Nat → Nat} {fx fy : Nat → UInt64} (hp : ∀ i, i < n → p i < n) (hq : ∀ i, i < n → q i < n) (hn : n < 64) (hx : ∀ i, i < n → Ex (fx i) (128 * cen n (p i))) (hy : ∀ i, i < n → Ex (fy i) (128 * cen n (q i))) :
    Ex (Float64.add (Float64.ofInt 0) (PySem.Builtin.Math.tlToFloat (tri fx fy n))) (64 * DD n p q) ∧ ∀ k, k ≤ n → Float64.isFinite (tri fx fy k).1 = true := by
  refine Ex.sumprod hx hy (c := fun i => 64 * (cen n (p i) * cen n (q i))) (fun i hi => by grind) (fun i hi => ?_) (by omega) ?_
  · have h1 := cen_abs (hp i hi) hn
    have h2 := cen_abs (hq i hi) hn
    rw [Int.natAbs_mul, Int.natAbs_mul]
    have : (cen n (p i)).natAbs * (cen n (q i)).natAbs ≤ 64 * 64 := Nat.mul_le_mul (by omega) (by omega)
    rw [show (64 : Int).natAbs = 64 from rfl]
    omega
  · rw [dotI_scale (c := 128) (f := fun i => cen n (p i)) (g := fun i => cen n (q i)) n (fun _ _ => rfl) fun _ _ => rfl]
    unfold DD; omega
end
section
open PySem.Float64
theorem Ex.nonzero {x : UInt64} {u : Int} (hx : Ex x u) (h : u ≠ 0) : isZero x = false := by
  obtain ⟨⟨a, m, e, hd⟩, hv⟩ := hx
  unfold isZero
  rw [hd]
  have hm : m ≠ 0 := by
    rintro rfl
    rw [val_eq hd] at hv
    have hp3 : (0 : Int) < 2 ^ 1066 := by decide +kernel
    have : u * 2 ^ 1066 = 0 := by rw [← hv]; simp [sgn]
    rcases Int.mul_eq_zero.1 this with h1 | h1
    · exact h h1
    · omega
  cases m with
  | zero => exact absurd rfl hm
  | succ k => rfl
theorem Ex.not_nan {x : UInt64} {u : Int} (hx : Ex x u) : Float64.isNaN x = false := by
  obtain ⟨⟨a, m, e, hd⟩, hv⟩ := hx
  unfold Float64.isNaN
  rw [hd]
end
section
open PySem.Float64
theorem fin_of {x : UInt64} (h : isFinite x = true) : ∃ a m e, decode x = .fin a m e := by
  unfold isFinite at h
  split at h
  · exact ⟨_, _, _, by assumption⟩
  · cases h
theorem ex_two : Ex 4611686018427387904 512 := ⟨fin_of (by decide +kernel), by decide +kernel⟩
theorem ex_one64 : Ex (ofFrac false 2 2) 256 := ⟨fin_of (by decide +kernel), by decide +kernel⟩
end
theorem sum_go : ∀ m : Nat, 2 * sumI (fun k => 256 * ((k : Int) + 1)) m = 256 * ((m : Int) * (m + 1))
  | 0 => by simp [sumI]
  | m + 1 => by
    have h := sum_go m
    unfold sumI
    push_cast
    grind
theorem sum_places {n : Nat} {p : Nat → Nat} (B : Bij n p) : sumI (fun i => 256 * ((p i : Int) + 1)) n = 128 * ((n : Int) * (n + 1)) := by
  have h := sum_go n
  have e := sumI_perm B fun k => 256 * ((k : Int) + 1)
  rw [e]; omega

section
variable {w : World} {p : Program} {loose : List Str} {mean : ExcName → Option Value} {mg mb : Str → Option Value} {A₀ : Around} {base h₀ h : Heap} {outer : List Env} {L : Addr} {m : Str → Option Value} {news : List (Addr × Obj)}
theorem Cx.docsH (C : Cx w p loose mean mg mb A₀ base outer h₀ L m h news) (hD : Docs base) : Docs h := (hD.keeps C.B.stays).keeps C.F.keep
end
section
variable {w : World} {p : Program} {loose : List Str} {mean : ExcName → Option Value} {mg mb : Str → Option Value} {A₀ A : Around} {base h₀ h h' : Heap} {outer : List Env} {L : Addr} {m : Str → Option Value} {news : List (Addr × Obj)} {s : Shared} {Q E : Value → Shared → Prop}
theorem Cx.keepsH (C : Cx w p loose mean mg mb A₀ base outer h₀ L m h news) (hk : ∀ b o, h.get? b = some o → h'.get? b = some o) : Cx w p loose mean mg mb A₀ base outer h₀ L m h' news :=
  ⟨C.B, ⟨C.F.ns.at fun o e => hk _ _ e, fun b o e => hk b o (C.F.keep b o e), C.F.above⟩, C.X, C.N.keeps hk, C.T, C.XB, C.TB⟩
theorem sumprod_cx {x y : Nat} {xs ys : Array Value} {fx fy : Nat → UInt64} (C : Cx w p loose mean mg mb A₀ base outer h₀ L m s.heap news) (hh : A.handled = none) (h1 : Walkable s.heap x xs) (h2 : Walkable s.heap y ys) (hn : ys.size = xs.size) (h0 : 0 < xs.size)
    (hx : ∀ (i : Nat) (v : Value), xs[i]? = some v → ∃ t, v = .float (fx i) t) (hy : ∀ (i : Nat) (v : Value), ys[i]? = some v → ∃ t, v = .float (fy i) t)
    (hf : ∀ k, k < xs.size → Float64.isFinite (tri fx fy (k + 1)).1 = true)
    (hQ : ∀ h' tk tk', s.toks ≤ tk' → Cx w p loose mean mg mb A₀ base outer h₀ L m h' news →
      Q (.float (Float64.add (Float64.ofInt 0) (Builtin.Math.tlToFloat (tri fx fy xs.size))) tk) { s with heap := h', toks := tk' }) :
    wpAny (model PySem.Challenge.pw_ij0047_01 w) A (call (.builtin "math.sumprod") [.ref x, .ref y]) Q E s := by
  refine sumprod_seqs hh h1 h2 hn h0 hx hy hf fun s' tk hk hg hd ho ht => ?_
  obtain ⟨h', g', d', tk', o'⟩ := s'
  dsimp only at hk hg hd ho ht ⊢
  subst hg hd ho
  exact hQ h' tk tk' ht (C.keepsH hk)
end
section
variable {M : Model} {A : Around} {E : Value → Shared → Prop} {s : Shared} {env : Env}
/-- the walk stands still here: the function is to be named -/
structure Stand (M : Model) (A : Around) (f : Addr) (pos : List Value) (kw : List (Str × Value)) (Q E : Value → Shared → Prop) (s : Shared) : Prop where
  go : ∃ o fd, (o.data = .func fd ∧ s.heap.get? f = some o) ∧ wpAny M A (call (.ref f) pos kw) Q E s
/-- a call with one argument by place and one by name -/
theorem call_kw1 {pos p : Pos} {f : Addr} {e value : Expr} {k : Str} {Q : Value → Shared → Prop}
    (h : wpAny M A (eval e env) (fun x s₁ => wpAny M A (eval value env) (fun y s₂ => Stand M A f [x] [(k, y)] Q E s₂) E s₁) E s) (he : starEach [e] env = (false, eval e env) :: starEach [] env := by rfl) :
    wpAny M A (callWith pos (.ref f) [] (backTo pos (starEach [e] env)) (backToKw pos (keywordEach [⟨some k, value, p⟩] env))) Q E s := by
  unfold callWith
  refine wpAny_bind (wpAny_holding (wpAny_mono (Q := fun x s₁ => ∃ o fd, (o.data = .func fd ∧ s₁.heap.get? f = some o) ∧ wpAny M A (call (.ref f) x.pos x.kw) Q E s₁) ?_ (fun x s₁ h₁ => wpAny_bind (wpAny_standAt ?_)) fun _ _ x => x))
  · refine evalArgs_kw2 rfl ?_ he
    refine spliced_more (wpAny_mono h (fun x s₁ h₁ => spliced_none ?_) fun _ _ x => x) he
    refine kwAll_cons ?_
    refine wpAny_mono h₁ (fun y s₂ h₂ => ?_) fun _ _ x => x
    exact kwAll_nil h₂.go
  · obtain ⟨o, fd, ⟨hd, ho⟩, h₁⟩ := h₁
    have tail : ∀ {t : Sem Value}, wpAny M A t Q E s₁ → wpAny M A (t >>= fun r => holding [r] point >>= fun _ => pure r) Q E s₁ :=
      fun ht => wpAny_bind (wpAny_mono ht (fun r s₂ hr => wpAny_bind (wpAny_holding (wpAny_point (wpAny_pure hr)))) fun _ _ x => x)
    refine wpAny_bind (m := keeperOf (.ref f)) ?_
    unfold keeperOf
    refine wpAny_bind (wpAny_load ho ?_)
    rw [hd]
    refine wpAny_pure ?_
    cases hs : ((backTo pos (starEach [e] env)).any (·.1) || (backToKw pos (keywordEach [⟨some k, value, p⟩] env)).any (·.1.isNone)) <;> simp only [hs]
    · split
      · exact tail h₁
      · exact tail (by unfold callMarked; exact Calls.wpAny_keep h₁)
    · exact tail (by unfold callMarked; exact Calls.wpAny_keep h₁)
end
local macro_rules | `(tactic| walk_at "exec Try") => `(tactic| ((with_reducible show wpAny _ _ (exec (Stmt.Try _ (_ :: _) _ [] _) (envOfC _ _ _ _ _)) _ _ _); refine wpAny_Try_except ?_))
local macro_rules | `(tactic| walk_at "callWith ref") => `(tactic| ((with_reducible show wpAny _ _ (callWith _ _ _ (backTo _ (starEach [_] _)) (backToKw _ (keywordEach [_] _))) _ _ _); refine call_kw1 ?_))
local macro_rules | `(tactic| walk_at "exec Raise some none") => `(tactic| contradiction)

section
variable {w : World} {p : Program} {loose : List Str} {mean : ExcName → Option Value} {mg mb : Str → Option Value} {dp un : Nat} {gd : Option (List Code)} {cn : Str} {cs : Scope} {a : Addr} {ccd : Value} {cl : List (Str × Addr)} {outer : List Env} {A₀ : Around} {base h₀ : Heap} {L : Addr} {m : Str → Option Value} {news rest : List (Addr × Obj)} {s : Shared} {Q E : Value → Shared → Prop}
theorem tup_at {h : Heap} {a : Addr} {items : Array Value} (e : h.get? a = some (tupObj items)) : h.IsTuple a items := ⟨_, e, rfl, _, rfl⟩
theorem two_vals {b c : UInt64} {tb tc : Tok} (i : Nat) (v : Value) (h : (#[Value.float b tb, Value.float c tc] : Array Value)[i]? = some v) : ∃ t, v = .float (if i = 0 then b else c) t := by
  match i with
  | 0 => simp at h; exact ⟨tb, h.symm⟩
  | 1 => simp at h; exact ⟨tc, h.symm⟩
  | i + 2 => simp at h
theorem sqrt_nums {x y h : UInt64} {S : Int} (hx : Ex x (64 * S)) (hy : Ex y (64 * S)) (hh : Ex h (64 * S)) (hS : S.natAbs < 2 ^ 17) :
    Ex (Float64.add (Float64.ofInt 0) (PySem.Builtin.Math.tlToFloat (tri (fun i => if i = 0 then x else h) (fun i => if i = 0 then y else Float64.neg h) 2))) 0 ∧ ∀ k, k ≤ 2 → Float64.isFinite (tri (fun i => if i = 0 then x else h) (fun i => if i = 0 then y else Float64.neg h) k).1 = true := by
  refine Ex.sumprod (a := fun _ => 64 * S) (b := fun i => if i = 0 then 64 * S else -(64 * S)) (c := fun i => if i = 0 then 16 * S * S else -(16 * S * S)) (fun i hi => ?_) (fun i hi => ?_) (fun i hi => ?_) (fun i hi => ?_) (by decide) ?_
  · split <;> assumption
  · split
    · assumption
    · exact hh.neg
  · split <;> grind
  · have h2 := Ar.sq40 hS
    split
    · exact h2
    · rw [Int.natAbs_neg]; exact h2
  · simp [dotI]; grind
set_option maxRecDepth 100000 in
set_option maxHeartbeats 2000000 in
theorem sqrtprod_call {x y : UInt64} {tx ty : Tok} {S : Int} (hx : Ex x (64 * S)) (hy : Ex y (64 * S)) (hS : 0 < S) (hS2 : S < 2 ^ 17)
  (C : Cx w p loose mean mg mb A₀ base outer h₀ L m s.heap news) (hk : cs.kind = .function) (hd : dp + 8 < recursionLimit) (hu : un + 40 < cLine)
  (hret : ∀ (h' : Heap) (tk tk' : Nat) (f : UInt64), Ex f (64 * S) → s.toks ≤ tk' → Cx w p loose mean mg mb A₀ base outer h₀ L m h' news → Q (.float f tk) { s with heap := h', toks := tk' }) :
  wpAny (model PySem.Challenge.pw_ij0047_01 w) (ktrTop dp un gd cn cs L a ccd cl outer) (call (.ref 328) [.float x tx, .float y ty]) Q E s := by
  have s17 := Ar.s17 hS hS2
  have p64 : 0 < 64 * S := Int.mul_pos (by decide) hS
  have p128 : 0 < 128 * S := Int.mul_pos (by decide) hS
  have b64 : (64 * S).natAbs < 2 ^ 53 := Ar.k53 s17 (by decide)
  have hm : Ex (Float64.mul x y) (16 * S * S) := hx.mul hy (by grind) (Nat.lt_trans (Ar.sq40 s17) (by decide))
  have hh : Ex (Float64.sqrt (Float64.mul x y)) (64 * S) := by
    have h := hm.sqrt (s := (64 * S).natAbs) (by rw [Int.natAbs_of_nonneg (Int.le_of_lt p64)]; grind) (Ar.nap p64) b64
    rwa [Int.natAbs_of_nonneg (Int.le_of_lt p64)] at h
  have f1 : Float64.isFinite (Float64.sqrt (Float64.mul x y)) = true := hh.finite
  have f2 : Float64.isZero (Float64.sqrt (Float64.mul x y)) = false := hh.nonzero (Int.ne_of_gt p64)
  have f3 : (Float64.isNaN (Float64.sqrt (Float64.mul x y)) && !Float64.isNaN (Float64.mul x y)) = false := by rw [hh.not_nan]; rfl
  have hm2 : Ex (Float64.mul 4611686018427387904 (Float64.sqrt (Float64.mul x y))) (128 * S) := ex_two.mul hh (by grind) (Ar.k53 s17 (by decide))
  have f4 : Float64.isZero (Float64.mul 4611686018427387904 (Float64.sqrt (Float64.mul x y))) = false := hm2.nonzero (Int.ne_of_gt p128)
  obtain ⟨B, F, X, N, T, XB, TB⟩ := C
  refine wpAny_call ?_
  k_dflt cell_enter
  refine gt_up (Nat.le_add_right s.toks _) (fun tk0 htk0 => ?_)
  k_steps
  rename News _ _ _ _ => N1
  rename Fr _ _ _ _ => F1
  have C1 : Cx w p loose mean mg mb _ base _ _ _ _ _ _ := ⟨by assumption, F1, by assumption, N1, by assumption, XB, TB⟩
  have W1 := tup_at (N1 _ (.tail _ (.head _))).1
  have W2 := tup_at (N1 _ (.head _)).1
  have nums := sqrt_nums hx hy hh s17
  refine sumprod_cx (fx := fun i => if i = 0 then x else Float64.sqrt (Float64.mul x y)) (fy := fun i => if i = 0 then y else Float64.neg (Float64.sqrt (Float64.mul x y))) C1 rfl (.inr W1) (.inr W2) rfl (by simp) ?s3 ?s4 (fun k hk => nums.2 _ hk) ?_
  case s3 => exact two_vals
  case s4 => exact two_vals
  intro h8 tkv tk8 htk8 C8
  have F8 := C8.F
  have N8 := C8.N
  clear C8 C1 W1 W2 N1 F1
  k_steps
  refine hret _ _ _ _ ?_ (by kwd_inv) (by kwd_rel)
  have h := hh.add (nums.1.div (q := 0) hm2 p128 (by simp) (by decide)) (by rw [Int.add_zero]; exact b64)
  rwa [Int.add_zero] at h
end

section
open PySem.Float64
theorem Ex.FI {f0 : UInt64} {u : Int} (h : Ex f0 u) (hu : u.natAbs < 2 ^ 40) : ∀ k, k < 4096 → Ex (FI f0 k) (u + 256 * (k : Int))
  | 0, _ => by simpa [Mine.FI] using h
  | k + 1, hk => by
    have ih := Ex.FI h hu k (by omega)
    have h1 := ih.add (Ex.ofInt (i := 1) (by decide)) (Ar.fiA hu hk)
    have e : u + 256 * (k : Int) + 1 * 256 = u + 256 * ((k + 1 : Nat) : Int) := Ar.fiE u k
    rwa [e] at h1
theorem start_num {n : Nat} (h2 : 2 ≤ n) (hn : n < 64) : Ex (ofFrac (decide ((n : Int) - 1 < 0) != decide ((-2 : Int) < 0)) ((n : Int) - 1).natAbs (-2 : Int).natAbs) (-(128 * ((n : Int) - 1))) := by
  have h := ofFrac_right (neg := (decide ((n : Int) - 1 < 0) != decide ((-2 : Int) < 0))) (n := ((n : Int) - 1).natAbs) (d := 2) (W := ((n : Int) - 1).natAbs * 2 ^ 1074) (D := 2) (by decide) rfl (by decide)
  have h3 := Ex.right (N := 128 * (n - 1)) h (by decide) (by
    have e1 : ((n : Int) - 1).natAbs = n - 1 := by rw [Ar.sub1 h2]; rfl
    have e2 : 2 ^ 1074 = 256 * 2 ^ 1066 := by decide +kernel
    rw [e1, e2]
    generalize 2 ^ 1066 = P
    have : 128 * (n - 1) * P * 2 = (n - 1) * (256 * P) := by
      generalize n - 1 = k; rw [Nat.mul_left_comm k 256 P, Nat.mul_assoc 128 k P]; omega
    rw [this]) (Ar.n128 hn)
  have e1 : (decide ((n : Int) - 1 < 0) != decide ((-2 : Int) < 0)) = true := by
    have : decide ((n : Int) - 1 < 0) = false := decide_eq_false (by rw [Ar.sub1 h2]; exact Int.not_lt.2 (Int.natCast_nonneg _))
    rw [this]; rfl
  rw [e1] at h3 ⊢
  have e2 : sgn true (128 * (n - 1)) = -(128 * ((n : Int) - 1)) := by rw [Ar.sub1 h2]; rfl
  rw [e2] at h3
  exact h3
noncomputable abbrev corFR (n : Nat) (j : Nat) : UInt64 := add (FI (sub (ofFrac (decide ((n : Int) - 1 < 0) != decide ((-2 : Int) < 0)) ((n : Int) - 1).natAbs (-2 : Int).natAbs) (ofInt 1)) j) one64
theorem fr_num {n j : Nat} (h2 : 2 ≤ n) (hn : n < 64) (hj : j < n) : Ex (corFR n j) (128 * cen n j) := by
  have r := Ar.rec1 h2 hn
  have h0 := (start_num h2 hn).sub (Ex.ofInt (i := 1) (by decide)) (Nat.lt_trans r (by decide))
  have e : -(128 * ((n : Int) - 1)) - 1 * 256 + 256 * (j : Int) + 256 = 128 * cen n j := Ar.frE n j
  have h1 := (h0.FI r j (Nat.lt_trans (Nat.lt_trans hj hn) (by decide))).add ex_one64 (by rw [e]; exact Ar.cen53 (cen_abs hj hn))
  rwa [e] at h1
theorem RankedBy.vals {n : Nat} {key : Nat → Array UInt8} {FR : Nat → UInt64} {zs : Array Value} (h : RankedBy n key FR zs) (i : Nat) (v : Value) (e : zs[i]? = some v) : ∃ t, v = .float (FR (rk n key i)) t := by
  have hi : i < n := by
    rw [← h.1]
    rw [Array.getElem?_eq_some_iff] at e
    exact e.1
  obtain ⟨t, ht⟩ := h.2 i hi
  rw [ht] at e
  cases e; exact ⟨t, rfl⟩
theorem DD_bounds {n : Nat} {p : Nat → Nat} (B : Bij n p) (h2 : 2 ≤ n) (hn : n < 64) : 0 < DD n p p ∧ DD n p p < 2 ^ 17 := by
  have h := DD_self B
  have h1 : 2 * n ≤ n * n := Nat.mul_le_mul_right _ h2
  have h3 : 2 * n * n ≤ n * n * n := Nat.mul_le_mul_right _ h1
  have h4 : n * n ≤ 63 * 63 := Nat.mul_le_mul (by omega) (by omega)
  have h5 : n * n * n ≤ 63 * 63 * 63 := Nat.mul_le_mul h4 (by omega)
  have h6 : 2 * n * n = 2 * (n * n) := Nat.mul_assoc ..
  have e : ((n * n * n : Nat) : Int) = (n : Int) * n * n := by push_cast; rfl
  omega
/-- what correlation gives back -/
noncomputable def CorVal (n : Nat) (p q : Nat → Nat) (f : UInt64) : Prop := Rd f (64 * DD n p q) (64 * DD n p p).natAbs ∧ (DD n p q = DD n p p → Ex f 256)
theorem DD_abs {n : Nat} {p q : Nat → Nat} (P : Bij n p) (R : Bij n q) (hn : n < 64) : (DD n p q).natAbs < 2 ^ 30 := by
  unfold DD
  have : ∀ m, m ≤ n → (sumI (fun i => cen n (p i) * cen n (q i)) m).natAbs ≤ 4096 * m := by
    intro m
    induction m with
    | zero => intro _; simp [sumI]
    | succ m ih =>
      intro hm
      have h0 := ih (by omega)
      have h1 := cen_abs (P.lt m (by omega)) hn
      have h2 := cen_abs (R.lt m (by omega)) hn
      have h3 : (cen n (p m)).natAbs * (cen n (q m)).natAbs ≤ 64 * 64 := Nat.mul_le_mul (by omega) (by omega)
      rw [← Int.natAbs_mul] at h3
      unfold sumI
      exact Nat.le_trans (Int.natAbs_add_le _ _) (by rw [Nat.mul_succ]; exact Nat.add_le_add h0 h3)
  have := this n (Nat.le_refl _)
  omega
theorem cor_val {n : Nat} {p q : Nat → Nat} {f h : UInt64} (P : Bij n p) (R : Bij n q) (h2 : 2 ≤ n) (hn : n < 64) (hf : Ex f (64 * DD n p q)) (hh : Ex h (64 * DD n p p)) : CorVal n p q (div f h) := by
  have b := DD_bounds P h2 hn
  have c := DD_abs P R hn
  refine ⟨Rd.div hf hh (by omega) (by omega), fun e => ?_⟩
  rw [e] at hf
  exact hf.div hh (by omega) (by omega) (by decide)
end

section
variable {w : World} {p : Program} {loose : List Str} {mean : ExcName → Option Value} {mg mb : Str → Option Value} {dp un : Nat} {gd : Option (List Code)} {cn : Str} {cs : Scope} {a : Addr} {ccd : Value} {cl : List (Str × Addr)} {outer : List Env} {A₀ : Around} {base h₀ : Heap} {L : Addr} {m : Str → Option Value} {news rest : List (Addr × Obj)} {s : Shared} {Q E : Value → Shared → Prop}
local macro_rules | `(tactic| omega) => `(tactic| (show False; with_reducible contradiction))
set_option maxRecDepth 100000 in
set_option maxHeartbeats 2000000 in
theorem cor_ranked {l1 l2 : Nat} {ol1 ol2 : Obj} {ks ks' : List (Array UInt8 × Tok)} {tm : Tok}
  (hn : 2 ≤ ks.length) (hn1 : ks.length < 64) (hlen : ks'.length = ks.length)
  (hkeys : ∀ i j, i < ks.length → j < ks.length → (ks.getD i (#[], 0)).1 = (ks.getD j (#[], 0)).1 → i = j)
  (htok : ∀ i, i < ks.length → (ks.getD i (#[], 0)).2 ≠ 0) (htok2 : ∀ i j, i < ks.length → j < ks.length → i ≠ j → (ks.getD i (#[], 0)).2 ≠ (ks.getD j (#[], 0)).2)
  (hkeys' : ∀ i j, i < ks.length → j < ks.length → (ks'.getD i (#[], 0)).1 = (ks'.getD j (#[], 0)).1 → i = j)
  (htok' : ∀ i, i < ks.length → (ks'.getD i (#[], 0)).2 ≠ 0) (htok2' : ∀ i j, i < ks.length → j < ks.length → i ≠ j → (ks'.getD i (#[], 0)).2 ≠ (ks'.getD j (#[], 0)).2)
  (C : Cx w p loose mean mg mb A₀ base outer h₀ L m s.heap news) (hD : Docs base) (hk : cs.kind = .function) (hd : dp + 80 < recursionLimit) (hu : un + 300 < cLine)
  (m1 : (l1, ol1) ∈ news) (hol1 : ol1.cls = .type "list") (hod1 : ∃ ep, ol1.data = .seq (ks.map fun p => Value.bytes p.1 p.2).toArray ep)
  (m2 : (l2, ol2) ∈ news) (hol2 : ol2.cls = .type "list") (hod2 : ∃ ep, ol2.data = .seq (ks'.map fun p => Value.bytes p.1 p.2).toArray ep)
  (hret : ∀ (g h' : Heap) (tk tk' : Nat) (f : UInt64), KtsTurn (outer.filterMap (·.frame)) h₀ g → CorVal ks.length (rk ks.length fun i => (ks.getD i (#[], 0)).1) (rk ks.length fun i => (ks'.getD i (#[], 0)).1) f →
    Cx w p loose mean mg mb A₀ base outer g L m h' news → Q (.float f tk) { s with heap := h', toks := tk' }) :
  wpAny (model PySem.Challenge.pw_ij0047_01 w) (ktrTop dp un gd cn cs L a ccd cl outer) (call (.ref 341) [.ref l1, .ref l2] [(Str.ofString "method", .str (Str.ofString "ranked") tm)]) Q E s := by
  have a2 := Ar.lt2 hn
  have a3 := Ar.c1023 hn1 hn
  refine wpAny_call (cor_enter C hD hk (by omega) ?_)
  intro t g L' h₁ tk0 o1 o2 d1 d2 FG C' lt
  have XB := C'.XB
  have TB := C'.TB
  have B := C'.B
  have T := C'.T
  have X := C'.X
  have N := C'.N
  have F := C'.F
  clear C' C
  k_lt lt
  have sz1 : ((ks.map fun p => Value.bytes p.1 p.2).toArray.size : Int) = (ks.length : Int) := by simp
  have sz2 : ((ks'.map fun p => Value.bytes p.1 p.2).toArray.size : Int) = (ks.length : Int) := by simp [hlen]
  k_steps
  rename News _ _ _ _ => N1
  refine ⟨kun_lenL ⟨ol1, (N1 _ (.tail _ (.tail _ m1))).1, hol1, hod1⟩ sz1 (Ar.le16 hn1) ?_⟩
  k_steps
  rename News _ _ _ _ => N2
  refine ⟨kun_lenL ⟨ol2, (N2 _ (.tail _ (.tail _ m2))).1, hol2, hod2⟩ sz2 (Ar.le16 hn1) ?_⟩
  k_steps
  rename News _ _ _ _ => N3
  rename Fr _ _ _ _ => F3
  have C3 : Cx w p loose mean mg mb _ base _ g L' _ _ _ := ⟨B, F3, X, N3, T, XB, TB⟩
  obtain ⟨vR, tR, hoR⟩ := (C3.docsH hD).rank
  refine ⟨_, _, ⟨rfl, hoR⟩, ?_⟩
  refine rank_flt (ks := ks) hn hn1 hkeys htok htok2 C3 hD rfl (by ktr_room) (by ktr_units) (.tail _ (.tail _ (.tail _ m1))) hol1 hod1 ?_
  intro g4 h4 tk4 r1 c1 zs1 KT4 htk4 RB1 lt4 C4
  have F4 := C4.F
  have N4 := C4.N
  have B4 := C4.B
  have X4 := C4.X
  have T4 := C4.T
  k_lt lt4
  clear C4 C3 N3 F3
  k_steps
  rename News _ _ _ _ => N5
  rename Fr _ _ _ _ => F5
  have C5 : Cx w p loose mean mg mb _ base _ g4 L' _ _ _ := ⟨B4, F5, X4, N5, T4, XB, TB⟩
  obtain ⟨vR2, tR2, hoR2⟩ := (C5.docsH hD).rank
  refine ⟨_, _, ⟨rfl, hoR2⟩, ?_⟩
  rw [← hlen] at hkeys' htok' htok2'
  refine rank_flt (ks := ks') (hlen ▸ hn) (hlen ▸ hn1) hkeys' htok' htok2' C5 hD rfl (by ktr_room) (by ktr_units) (.tail _ (.tail _ (.tail _ (.tail _ m2)))) hol2 hod2 ?_
  intro g6 h6 tk6 r2 c2 zs2 KT6 htk6 RB2 lt6 C6
  have F6 := C6.F
  have N6 := C6.N
  have B6 := C6.B
  have X6 := C6.X
  have T6 := C6.T
  k_lt lt6
  clear C6 C5 N5 F5
  k_steps
  rename News _ _ _ _ => N7
  rename Fr _ _ _ _ => F7
  have C7 : Cx w p loose mean mg mb _ base _ g6 L' _ _ _ := ⟨B6, F7, X6, N7, T6, XB, TB⟩
  have W1 := News.isList N7 (.tail _ (.head _))
  have W2 := News.isList N7 (.head _)
  have P1 : Bij ks.length (rk ks.length fun i => (ks.getD i (#[], 0)).1) := rk_bij hkeys (by omega)
  have P2 : Bij ks.length (rk ks.length fun i => (ks'.getD i (#[], 0)).1) := by rw [hlen] at hkeys'; exact rk_bij hkeys' (by omega)
  rw [hlen] at RB2
  have Z1 := RB1.1
  have Z2 := RB2.1
  have nxy := sum_ranks P1.lt P2.lt hn1 (fun i hi => fr_num hn hn1 (P1.lt i hi)) (fun i hi => fr_num hn hn1 (P2.lt i hi))
  have nxx := sum_ranks P1.lt P1.lt hn1 (fun i hi => fr_num hn hn1 (P1.lt i hi)) (fun i hi => fr_num hn hn1 (P1.lt i hi))
  have nyy := sum_ranks P2.lt P2.lt hn1 (fun i hi => fr_num hn hn1 (P2.lt i hi)) (fun i hi => fr_num hn hn1 (P2.lt i hi))
  refine sumprod_cx C7 rfl (.inl W1) (.inl W2) (by rw [Z1, Z2]) (Ar.pos Z1 hn) RB1.vals RB2.vals (fun k hk => nxy.2 _ (Ar.le_of Z1 hk)) ?_
  intro h8 tkv tk8 htk8 C8
  rw [Z1]
  have F8 := C8.F
  have N8 := C8.N
  clear C8 C7 W1 W2 N7 F7
  k_steps
  rename News _ _ _ _ => N9
  rename Fr _ _ _ _ => F9
  have C9 : Cx w p loose mean mg mb _ base _ g6 L' _ _ _ := ⟨B6, F9, X6, N9, T6, XB, TB⟩
  have W1 := News.isList N9 (.tail _ (.head _))
  refine sumprod_cx C9 rfl (.inl W1) (.inl W1) rfl (Ar.pos Z1 hn) RB1.vals RB1.vals (fun k hk => nxx.2 _ (Ar.le_of Z1 hk)) ?_
  intro h10 tkv2 tk10 htk10 C10
  rw [Z1]
  have F10 := C10.F
  have N10 := C10.N
  clear C10 C9 W1 N9 F9
  k_steps
  rename News _ _ _ _ => N11
  rename Fr _ _ _ _ => F11
  have C11 : Cx w p loose mean mg mb _ base _ g6 L' _ _ _ := ⟨B6, F11, X6, N11, T6, XB, TB⟩
  have W2 := News.isList N11 (.head _)
  refine sumprod_cx C11 rfl (.inl W2) (.inl W2) rfl (Ar.pos Z2 hn) RB2.vals RB2.vals (fun k hk => nyy.2 _ (Ar.le_of Z2 hk)) ?_
  intro h12 tkv3 tk12 htk12 C12
  rw [Z2]
  have F12 := C12.F
  have N12 := C12.N
  clear C12 C11 W2 N11 F11
  k_steps
  rename News _ _ _ _ => N13
  rename Fr _ _ _ _ => F13
  have C13 : Cx w p loose mean mg mb _ base _ g6 L' _ _ _ := ⟨B6, F13, X6, N13, T6, XB, TB⟩
  have e12 : DD ks.length (rk ks.length fun i => (ks'.getD i (#[], 0)).1) (rk ks.length fun i => (ks'.getD i (#[], 0)).1) = DD ks.length (rk ks.length fun i => (ks.getD i (#[], 0)).1) (rk ks.length fun i => (ks.getD i (#[], 0)).1) := by
    exact Ar.three (DD_self P1) (DD_self P2)
  have bd := DD_bounds P1 hn hn1
  have nyy1 := nyy.1
  rw [e12] at nyy1
  refine ⟨sqrtprod_call nxx.1 nyy1 bd.1 bd.2 C13 rfl (by ktr_room) (by ktr_units) ?_⟩
  intro h14 tkv4 tk14 fh Eh htk14 C14
  have f4 : Float64.isZero fh = false := Eh.nonzero (Ar.d0 bd)
  have F14 := C14.F
  have N14 := C14.N
  clear C14 C13 N13 F13
  have KT := KT4.trans KT6
  clear KT4 KT6
  k_steps
  exact hret _ _ _ _ _ (by assumption) (cor_val P1 P2 hn hn1 nxy.1 Eh) (by kwd_rel)
end

section
open PySem.Float64
theorem Ex.isZero {x : UInt64} (hx : Ex x 0) : Float64.isZero x = true := by
  obtain ⟨⟨a, m, e, hd⟩, hv⟩ := hx
  unfold Float64.isZero
  rw [hd]
  rw [val_eq hd, Int.zero_mul] at hv
  have h := congrArg Int.natAbs hv
  rw [sgn_natAbs] at h
  have hp : 0 < 2 ^ (e + 1074).toNat := Nat.two_pow_pos _
  cases m with
  | zero => rfl
  | succ k =>
    have : 0 < (k + 1) * 2 ^ (e + 1074).toNat := Nat.mul_pos (Nat.succ_pos _) hp
    omega
/-- fsum's partial sums when nothing is lost -/
inductive PS (S : Int) : List UInt64 → Prop
  | nil : S = 0 → PS S []
  | one {h : UInt64} : 0 < S → Ex h S → PS S [h]
noncomputable def fsNext (ps : List UInt64) (x : UInt64) : List UInt64 := if Float64.isZero (fsumAdd ps x).2 then (fsumAdd ps x).1 else (fsumAdd ps x).1 ++ [(fsumAdd ps x).2]
theorem PS.step {S v : Int} {ps : List UInt64} {x : UInt64} (P : PS S ps) (hx : Ex x v) (hv : 0 < v) (hS : S.natAbs < 2 ^ 50) (hv2 : v.natAbs < 2 ^ 50) : Float64.isFinite (fsumAdd ps x).2 = true ∧ PS (S + v) (fsNext ps x) := by
  cases P with
  | nil h =>
    subst h
    refine ⟨hx.finite, ?_⟩
    unfold fsNext
    have e : fsumAdd [] x = ([], x) := rfl
    rw [e]
    dsimp only
    rw [hx.nonzero (Int.ne_of_gt hv), Int.zero_add]
    exact .one hv hx
  | one h h1 =>
    rename_i y
    have key : ∀ a b u w, Ex a u → Ex b w → u.natAbs < 2 ^ 50 → w.natAbs < 2 ^ 50 → Float64.isZero (sub b (sub (add a b) a)) = true := fun a b u w ha hb hu hw => by
      have h1 := (ha.add hb (Ar.nadd hu hw (by decide))).sub ha (by rw [Ar.cl]; exact Nat.lt_trans hw (by decide))
      rw [Ar.cl] at h1
      have h2 := hb.sub h1 (by rw [Int.sub_self]; decide)
      rw [Int.sub_self] at h2
      exact h2.isZero
    have main : ∃ t, fsumAdd [y] x = ([], t) ∧ Ex t (S + v) := by
      unfold fsumAdd
      by_cases hl : lt (abs x) (abs y) = true
      · simp only [hl, if_true]
        refine ⟨add y x, ?_, h1.add hx (Ar.nadd hS hv2 (by decide))⟩
        simp only [fsumAdd, key _ _ _ _ h1 hx hS hv2, if_true]
      · have hl' : lt (abs x) (abs y) = false := by simpa using hl
        simp only [hl', Bool.false_eq_true, if_false]
        refine ⟨add x y, ?_, ?_⟩
        · simp only [fsumAdd, key _ _ _ _ hx h1 hv2 hS, if_true]
        · have := hx.add h1 (Ar.nadd hv2 hS (by decide))
          rwa [Int.add_comm] at this
    obtain ⟨t, e, ht⟩ := main
    unfold fsNext
    rw [e]
    dsimp only
    rw [ht.nonzero (Int.ne_of_gt (Int.add_pos h hv))]
    exact ⟨ht.finite, .one (Int.add_pos h hv) ht⟩
theorem PS.end {S : Int} {ps : List UInt64} (P : PS S ps) (hS : 0 < S) : Ex (fsumEnd ps) S := by
  cases P with
  | nil h => omega
  | one _ h => exact h
theorem PS.len {S : Int} {ps : List UInt64} (P : PS S ps) : ps.length ≤ 1 := by cases P <;> simp
/-- the partial sums after k turns -/
noncomputable def fs (fx : Nat → UInt64) : Nat → List UInt64
  | 0 => []
  | k + 1 => fsNext (fs fx k) (fx k)
theorem fs_ok {fx : Nat → UInt64} {u : Nat → Int} {n : Nat} (h : ∀ i, i < n → Ex (fx i) (u i)) (hp : ∀ i, i < n → 0 < u i) (hb : ∀ i, i < n → u i < 2 ^ 30) (hn : n < 4096) :
    ∀ k, k ≤ n → PS (sumI u k) (fs fx k) ∧ 0 ≤ sumI u k ∧ sumI u k ≤ k * 2 ^ 30
  | 0, _ => ⟨.nil rfl, by simp [sumI], by simp [sumI]⟩
  | k + 1, hk => by
    obtain ⟨P, h0, h1⟩ := fs_ok h hp hb hn k (by omega)
    have a := hp k (by omega)
    have b := hb k (by omega)
    refine ⟨(P.step (h k (by omega)) a (by omega) (by omega)).2, ?_, ?_⟩
    · unfold sumI; omega
    · unfold sumI; push_cast; omega
theorem fs_fin {fx : Nat → UInt64} {u : Nat → Int} {n : Nat} (h : ∀ i, i < n → Ex (fx i) (u i)) (hp : ∀ i, i < n → 0 < u i) (hb : ∀ i, i < n → u i < 2 ^ 30) (hn : n < 4096) (k : Nat) (hk : k < n) :
    Float64.isFinite (fsumAdd (fs fx k) (fx k)).2 = true := by
  obtain ⟨P, h0, h1⟩ := fs_ok h hp hb hn k (by omega)
  have a := hp k hk
  have b := hb k hk
  exact (P.step (h k hk) a (by omega) (by omega)).1
end

section
variable {prog : Program} {w : World} {A : Around} {I : Addr} {fp wr : List Addr} {G : Array GenState → Array GenState → Prop} {n : Nat} {P : Nat → Value → Prop} {St : Nat → Shared → Prop} {E : Value → Shared → Prop} {Q : Value → Shared → Prop}
theorem entry_fsum : entryFor table "math.fsum" = some Builtin.«math.fsum» := by first | exact entryFor_of_fast (by kernel_rfl) | exact entryFor_of_tree (by kernel_rfl)
theorem entry_fsum_loop : entryFor table "math.fsum.loop" = some Builtin.«math.fsum.loop» := by first | exact entryFor_of_fast (by kernel_rfl) | exact entryFor_of_tree (by kernel_rfl)
theorem plain_fsum : plainId "math.fsum" = true := by decide +kernel
theorem plain_fsum_loop : plainId "math.fsum.loop" = true := by decide +kernel
theorem kind_fsum : builtinKind "math.fsum" = none := by decide +kernel
theorem args_fsum (a : Value) : argsOk "math.fsum" ⟨[a], []⟩ := by unfold argsOk; kernel_rfl
noncomputable abbrev bitsObj (ps : List UInt64) : Obj := { cls := .type "tuple", data := .seq (ps.map fun x => rawInt x.toNat).toArray }
theorem bits_back (ps : List UInt64) : (((ps.map fun x => rawInt x.toNat).toArray.toList.map fun v => match v with | .int i _ => i.toNat.toUInt64 | _ => 0)) = ps := by
  have e1 : ∀ x : UInt64, (x.toNat : Int).toNat.toUInt64 = x := fun x => by rw [Int.toNat_natCast]; exact UInt64.ofNat_toNat
  simp only [List.map_map]
  refine (List.map_congr_left fun x _ => ?_).trans (List.map_id ps)
  exact e1 x
theorem wpAny_pure_eq {M : Model} {α : Type} {A : Around} {Q : α → Shared → Prop} {s : Shared} {a b : α} (e : a = b) (h : Q b s) : wpAny M A (pure a) Q E s := by subst e; exact wpAny_pure h
theorem realArg_flt {A : Around} {Q : UInt64 → Shared → Prop} {s : Shared} {x : UInt64} {t : Tok} (h : Q x s) : wpAny (model prog w) A (Builtin.Math.realArg (.float x t)) Q E s := by
  unfold Builtin.Math.realArg
  exact wpAny_bind (m := Builtin.Float.asFloat? (.float x t)) (wpAny_pure (wpAny_pure h))
theorem fsum_turn {R : Result → Shared → Prop} {s : Shared} {T Z : Addr} {ps : List UInt64}
    (hT : s.heap.get? T = some (bitsObj ps)) (hZ : s.heap.get? Z = some (bitsObj [Float64.zero false, Float64.zero false])) (hps : ps.length ≤ 1)
    (h : wpAny (model prog w) A.in1 (pyNext (.ref I)) (fun p s₁ => match p with
      | some p => ∃ x tx, p = .float x tx ∧ Float64.isFinite (Float64.fsumAdd ps x).2 = true ∧ (fsNext ps x).length ≤ 1 ∧ codeAny (model prog w) A (.builtin "math.fsum.loop" ⟨[.ref I, .ref s₁.heap.objs.size, .ref Z], []⟩) R { s₁ with heap := s₁.heap.push (bitsObj (fsNext ps x)) }
      | none => R (.ok (.ret (.float (Float64.fsumEnd ps) s₁.toks))) { s₁ with toks := s₁.toks + 1 }) (fun e s' => R (.error e) s') s) :
    codeAny (model prog w) A (.builtin "math.fsum.loop" ⟨[.ref I, .ref T, .ref Z], []⟩) R s := by
  refine codeAny_builtin entry_fsum_loop ?_
  rw [Around.under_plainId plain_fsum_loop _]
  unfold Builtin.«math.fsum.loop»
  (try dsimp only)
  refine wpAny_bind (wpAny_bind (wpAny_seqItems hT rfl (wpAny_pure_eq (b := ps) (bits_back ps) ?_)))
  refine wpAny_bind (wpAny_bind (wpAny_seqItems hZ rfl (wpAny_pure_eq (b := [Float64.zero false, Float64.zero false]) (bits_back _) ?_)))
  (try dsimp only)
  refine wpAny_bind (wpAny_mono h (fun p s₁ h₁ => ?_) fun _ _ e => e)
  cases p with
  | none =>
    have e : (!Float64.isZero (Float64.zero false)) = false := by rw [(Ex.zero false).isZero]; rfl
    simp only [e, Bool.false_eq_true, if_false]
    exact wpAny_bind (wpAny_mkFloat (wpAny_pure h₁))
  | some p =>
    obtain ⟨x, tx, rfl, hf, hl, hc⟩ := h₁
    refine wpAny_bind (wpAny_holding (realArg_flt ?_))
    simp only [hf, if_true]
    refine wpAny_bind (wpAny_newTuple (wpAny_pure ?_) (hsz := ?_))
    · exact ⟨plainId_quiet plain_fsum_loop _, hc⟩
    · rw [List.length_map]; exact Nat.le_trans hl (by rw [sizeLine_eq]; omega)
theorem fsum_loopW {fx : Nat → UInt64} {R : Result → Shared → Prop} {GI : Array GenState → Prop} {Z : Nat}
    (W : WalksS prog w A.in1 I fp wr G n P St) (hP : ∀ i v, P i v → ∃ t, v = .float (fx i) t) (gp : ∀ a b, G a b → GI a → GI b)
    (hf : ∀ k, k < n → Float64.isFinite (Float64.fsumAdd (fs fx k) (fx k)).2 = true) (hl : ∀ k, k ≤ n → (fs fx k).length ≤ 1) (hZf : Z ∉ fp) :
    ∀ (f i : Nat) (s : Shared) (T : Nat), i + f = n → GI s.gens → St i s → s.heap.get? T = some (bitsObj (fs fx i)) → s.heap.get? Z = some (bitsObj [Float64.zero false, Float64.zero false]) → (∀ b ∈ fp, b < T) →
      (∀ s' tk, Reach wr [] GI s s' → R (.ok (.ret (.float (Float64.fsumEnd (fs fx n)) tk))) s') →
      codeAny (model prog w) A (.builtin "math.fsum.loop" ⟨[.ref I, .ref T, .ref Z], []⟩) R s := by
  intro f
  induction f with
  | zero =>
    intro i s T hi hg st hT hZ hlt hR
    have e : i = n := by omega
    subst e
    refine fsum_turn hT hZ (hl i (Nat.le_refl _)) (W.done s _ _ st fun s₁ m₁ => hR _ _ ?_)
    exact ⟨fun b o h1 h2 e => m₁.heap b o h1 e, gp _ _ m₁.gens hg, m₁.drawn, m₁.os, Nat.le_trans m₁.toks (by show s₁.toks ≤ s₁.toks + 1; omega)⟩
  | succ f ih =>
    intro i s T hi hg st hT hZ hlt hR
    refine fsum_turn hT hZ (hl i (by omega)) (W.item i s _ _ (by omega) st fun v s₁ hv st₁ m₁ => ?_)
    obtain ⟨tx, rfl⟩ := hP _ _ hv
    have hT₁ : T < s₁.heap.objs.size := Heap.lt_size (m₁.heap T _ (fun hm => absurd (hlt _ (W.sub _ hm)) (Nat.lt_irrefl _)) hT)
    have hZ₁ := m₁.heap Z _ (fun hm => hZf (W.sub _ hm)) hZ
    refine ⟨fx i, tx, rfl, hf i (by omega), hl (i + 1) (by omega), ?_⟩
    refine ih (i + 1) _ s₁.heap.objs.size (by omega) (gp _ _ m₁.gens hg) (W.frame _ _ _ s₁.toks st₁ (Nat.le_refl _) fun b _ o e => Heap.get?_push_of_some _ e) (Heap.get?_push_size _ rfl) (Heap.get?_push_of_some _ hZ₁) (fun b hb => Nat.lt_trans (hlt b hb) hT₁)
      (fun s' tk hr => hR s' tk ?_)
    refine Reach.trans (s' := { s₁ with heap := s₁.heap.push (bitsObj (fsNext (fs fx i) (fx i))) }) ⟨fun b o h1 h2 e => ?_, gp _ _ m₁.gens hg, m₁.drawn, m₁.os, m₁.toks⟩ hr
    exact Heap.get?_push_of_some _ (m₁.heap b o h1 e)
theorem fsum_call {s : Shared} {x : Value} (h : wpAny (model prog w) A.in1 (pyIter x) (fun it s₁ =>
      codeAny (model prog w) A (.builtin "math.fsum.loop" ⟨[it, .ref s₁.heap.objs.size, .ref (s₁.heap.push (bitsObj [])).objs.size], []⟩) (retR Q E)
        { s₁ with heap := (s₁.heap.push (bitsObj [])).push (bitsObj [Float64.zero false, Float64.zero false]) }) E s) :
    wpAny (model prog w) A (call (.builtin "math.fsum") [x]) Q E s := by
  refine call_again kind_fsum plain_fsum entry_fsum (args_fsum x) ?_
  unfold Builtin.«math.fsum»
  refine wpAny_bind (m := Builtin.Math.mathOne "fsum" _) (wpAny_of_eq (a := x) (by first | rfl | kernel_rfl!) ?_)
  refine wpAny_bind (wpAny_mono h (fun it s₁ h₁ => ?_) fun _ _ e => e)
  refine wpAny_bind (wpAny_newTuple ?_ (hsz := by show 0 ≤ sizeLine; omega))
  refine wpAny_bind (wpAny_newTuple ?_ (hsz := by show 2 ≤ sizeLine; rw [sizeLine_eq]; omega))
  exact wpAny_pure ⟨plainId_quiet plain_fsum_loop _, h₁⟩
end
section
variable {w : World} {p : Program} {loose : List Str} {mean : ExcName → Option Value} {mg mb : Str → Option Value} {A₀ A : Around} {base h₀ h h' : Heap} {outer : List Env} {L : Addr} {m : Str → Option Value} {news : List (Addr × Obj)} {s : Shared} {Q E : Value → Shared → Prop}
theorem fsum_cx {x : Nat} {xs : Array Value} {fx : Nat → UInt64} {u : Nat → Int} (C : Cx w p loose mean mg mb A₀ base outer h₀ L m s.heap news) (hh : A.handled = none) (h1 : Walkable s.heap x xs) (h0 : 0 < xs.size) (hn : xs.size < 4096)
    (hx : ∀ (i : Nat) (v : Value), xs[i]? = some v → ∃ t, v = .float (fx i) t) (hu : ∀ i, i < xs.size → Ex (fx i) (u i)) (hpos : ∀ i, i < xs.size → 0 < u i) (hbig : ∀ i, i < xs.size → u i < 2 ^ 30)
    (hQ : ∀ h' tk tk' f, Ex f (sumI u xs.size) → s.toks ≤ tk' → Cx w p loose mean mg mb A₀ base outer h₀ L m h' news → Q (.float f tk) { s with heap := h', toks := tk' }) :
    wpAny (model PySem.Challenge.pw_ij0047_01 w) A (call (.builtin "math.fsum") [.ref x]) Q E s := by
  have hi : A.in1.handled = none := hh
  refine fsum_call (iter_seq hi h1 fun St ob W st hf₁ => ?_)
  have lx : x < s.heap.objs.size := h1.lt
  have sz : (s.heap.push ob).objs.size = s.heap.objs.size + 1 := Heap.size_push ..
  have sz' : ((s.heap.push ob).push (bitsObj [])).objs.size = s.heap.objs.size + 2 := by rw [Heap.size_push, sz]
  have b0 : ∀ {b o}, (s.heap.push ob).get? b = some o → (((s.heap.push ob).push (bitsObj [])).push (bitsObj [Float64.zero false, Float64.zero false])).get? b = some o := fun e => Heap.get?_push_of_some _ (Heap.get?_push_of_some _ e)
  have len : ∀ k, k ≤ xs.size → (fs fx k).length ≤ 1 := fun k hk => (fs_ok hu hpos hbig hn k hk).1.len
  have tot : 0 < sumI u xs.size := by
    have : ∀ k, 0 < k → k ≤ xs.size → 0 < sumI u k := fun k hk hk2 => by
      cases k with
      | zero => omega
      | succ k =>
        have a := (fs_ok hu hpos hbig hn k (by omega)).2.1
        have b := hpos k (by omega)
        unfold sumI; omega
    exact this _ h0 (Nat.le_refl _)
  refine fsum_loopW (fx := fx) (GI := fun g => g = s.gens) (n := xs.size) W.toS hx (fun a b e h => e.trans h) (fs_fin hu hpos hbig hn) len ?_ xs.size 0 _ _ (Nat.zero_add _) rfl (W.frame _ _ _ st fun c hc o e => b0 e) (Heap.get?_push_of_some _ (Heap.get?_push_size _ rfl)) (Heap.get?_push_size _ rfl) ?_ fun s' tk r => ?_
  · intro hm
    simp only [List.mem_cons, List.not_mem_nil, or_false] at hm
    rcases hm with e | e
    · exact absurd (show ((s.heap.push ob).push (bitsObj [])).objs.size = s.heap.objs.size from e) (by omega)
    · exact absurd (show ((s.heap.push ob).push (bitsObj [])).objs.size = x from e) (by omega)
  · intro b hb
    simp only [List.mem_cons, List.not_mem_nil, or_false] at hb
    rcases hb with rfl | rfl
    · show s.heap.objs.size < (s.heap.push ob).objs.size; omega
    · exact Nat.lt_of_lt_of_le lx (Nat.le_of_lt (by rw [sz]; exact Nat.lt_succ_self _))
  · obtain ⟨h', g', d', tk', o'⟩ := s'
    have r1 := r.heap
    have r2 : g' = s.gens := r.gens
    have r3 : d' = s.drawn := r.drawn
    have r4 : o' = s.os := r.os
    have r5 := r.toks
    dsimp only at r1 r5
    subst r2 r3 r4
    refine hQ h' tk tk' _ ((fs_ok hu hpos hbig hn _ (Nat.le_refl _)).1.end tot) r5 (C.keepsH fun b o e => r1 b o (fun z => ?_) (fun z => nomatch z) (b0 (Heap.get?_push_of_some _ e)))
    have := Heap.lt_size e
    exact absurd (List.mem_singleton.mp z) (Nat.ne_of_lt this)
end

section
variable {prog : Program} {w : World} {A : Around} {E : Value → Shared → Prop} {s : Shared}
theorem passing_all (n : Nat) : passing (fun _ => true) n 0 = List.range n := by unfold passing; simp
noncomputable abbrev subF (fx : Nat → UInt64) (b : UInt64) (i : Nat) (v : Value) : Prop := ∃ t, v = .float (Float64.sub (fx i) b) t
/-- what a generator x - y over a list is, between two steps -/
noncomputable abbrev GenSt (prog : Program) (w : World) (A : Around) (a : Addr) (g : Nat) (C I l k : Addr) (n : Nat) (fx : Nat → UInt64) (b : UInt64) : Nat → Shared → Prop :=
  GenAt prog w A.in4 a g C [I, l, k, cStatics] [I] (fun _ => true) n (subF fx b)
theorem GenAt.move {a : Addr} {g : Nat} {C : Addr} {fp wr : List Addr} {pz : Nat → Bool} {n₀ : Nat} {F : Nat → Value → Prop} {j : Nat} {s s' : Shared} (h : GenAt prog w A a g C fp wr pz n₀ F j s)
    (hk : ∀ b ∈ a :: C :: fp, ∀ o, s.heap.get? b = some o → s'.heap.get? b = some o) (hc : cStatics ∈ fp) (hg : s'.gens[g]? = s.gens[g]?) : GenAt prog w A a g C fp wr pz n₀ F j s' := by
  obtain ⟨h1, h2, gs, h3, h4⟩ := h
  obtain ⟨o, x, y, ho, h1⟩ := h1
  refine ⟨⟨o, x, y, hk a (.head _) o ho, h1⟩, h2.at fun o e => hk _ (.tail _ (.tail _ hc)) o e, gs, hg.trans h3, fun s'' hal => h4 s'' fun b hb o e => hal b hb o (hk b (.tail _ hb) o e)⟩
theorem gen_walks (hh : A.handled = none) {a g C I l k n : Nat} {fx : Nat → UInt64} {b : UInt64} (hroom : A.depth < recursionLimit) (h1 : a ≠ C) (h2 : a ∉ [I, l, k, cStatics]) (h3 : cStatics ≠ C) (h4 : cStatics ≠ I) :
    WalksS prog w A.in1 a [a, C, I, l, k, cStatics] [C, I] (GenOnlyQ g) n (fun j y => subF fx b j y) (GenSt prog w A a g C I l k n fx b) := by
  have W := WalksS.genexpQ (prog := prog) (w := w) (A := A.in4) hh a g C [I, l, k, cStatics] [I] (fun _ => true) n (subF fx b) h1 h2 (fun x hx => by rw [List.mem_singleton.mp hx]; exact .head _) hroom (.tail _ (.tail _ (.tail _ (.head _)))) h3 (fun hm => h4 (List.mem_singleton.mp hm))
  have W1 := W.in4_1
  rw [passing_all, List.length_range] at W1
  exact { sub := W1.sub, grefl := W1.grefl, gtrans := W1.gtrans, frame := W1.frame, done := W1.done, self := W1.self,
          item := fun i s Q E hi st hQ => W1.item i s Q E hi st fun v s' ⟨j, hj, hF⟩ => by
            rw [List.getElem?_range hi] at hj
            cases hj
            exact hQ v s' hF }
theorem elt_sub {cenv : Env} {x y : Str} {px py bp : Pos} {va vb : UInt64} {ta tb : Tok} {m : Str → Option Value} (hkind : cenv.scope.kind = .function)
    (hx : cenv.kindOf x = some .local) (hn : s.heap.Ns cenv.locals m) (hm : m x = some (.float va ta)) (hdx : (x == ("__debug__" : Str)) = false) (hdy : (y == ("__debug__" : Str)) = false)
    (hy : ∀ (Q : Value → Shared → Prop), Q (.float vb tb) s → wpAny (model prog w) A (loadName cenv y) Q E s) :
    wpAny (model prog w) A (eval (.BinOp (.Name x px) .Sub (.Name y py) bp) cenv) (fun v s' => (∃ t, v = .float (Float64.sub va vb) t) ∧ Keeps s s') E s := by
  refine wpAny_BinOp (wpAny_Name (hd := hdx) (wpAny_loadName_local hkind hx hn hm (wpAny_Name (hd := hdy) (hy _ ?_))))
  exact AutoFloatOps.sub_0 ⟨⟨_, rfl⟩, _, _, rfl, fun _ _ e => e⟩
set_option maxHeartbeats 1000000 in
theorem gen_make {env : Env} {iter : Expr} {x y : Str} {p1 p2 bp px : Pos} {scope : Scope} {pos : Pos} {Q : Value → Shared → Prop} {l k c P bm : Nat} {xs : Array Value} {fx : Nat → UInt64} {b : UInt64} {tb : Tok} {ps : Array Value} {mg : Str → Option Value} {ob : Obj}
    (hh : A.handled = none) (hroom : A.depth < recursionLimit) (hco : scope.isCoroutine = false) (hclos : closureFor scope env = pure [(y, k)]) (hcell : ∀ y ∈ scope.names, y.2 ≠ .cell) (h0 : scope.names.lookup (".0" : Str) = some NameKind.local)
    (hx : scope.names.lookup x = some .local) (hy : scope.names.lookup y = some .free) (hkind : scope.kind = .function) (hs : ∀ x, genFold iter env x = pure x) (hdx : (x == ("__debug__" : Str)) = false) (hdy : (y == ("__debug__" : Str)) = false) (hcy : (y == ("__classdict__" : Str)) = false)
    (hcode : env.code = .ref c) (hIs : s.heap.IsCode c P ps) (hTb : s.heap.TableAt c P ps) (hnf : codeAmong pos ps.toList = none) (hlim : s.heap.NoLimit) (hcP : cStatics ≠ P) (hM : BMod s.heap env.globals mg bm ob)
    (hiter : ∀ (Q' : Value → Shared → Prop), Q' (.ref l) s → wpAny (model prog w) A (eval iter env) Q' E s)
    (hl : s.heap.IsList l xs) (hkc : s.heap.IsCell k (some (.float b tb))) (hlP : l ≠ P) (hkP : k ≠ P)
    (hxs : ∀ (i : Nat) (v : Value), xs[i]? = some v → ∃ t, v = .float (fx i) t)
    (hQ : ∀ (a I C c' : Nat) (h' : Heap) (tk : Nat) (gs : GenState), gs.bare = true → s.heap.objs.size ≤ I → I < C → C < a → a < h'.objs.size → (∃ o, h'.get? C = some o) → (∃ o, h'.get? I = some o) → (∀ b o, b ≠ P → s.heap.get? b = some o → h'.get? b = some o) →
      h'.get? P = some { cls := .none, data := .fields (ps ++ #[rawInt pos.line, rawInt pos.col, .ref c']) } →
      GenSt prog w A a s.gens.size C I l k xs.size fx b 0 { s with gens := s.gens.push gs, toks := tk, heap := h' } → Q (.ref a) { s with gens := s.gens.push gs, toks := tk, heap := h' }) :
    wpAny (model prog w) A (eval (.GeneratorExp (.BinOp (.Name x p1) .Sub (.Name y p2) bp) [⟨.Name x px, iter, [], 0⟩] scope pos) env) Q E s := by
  have hll : l < s.heap.objs.size := by obtain ⟨_, e, _⟩ := hl; exact Heap.lt_size e
  have hkl : k < s.heap.objs.size := by obtain ⟨_, e, _⟩ := hkc; exact Heap.lt_size e
  have hcl : @LT.lt Nat _ cStatics s.heap.objs.size := by obtain ⟨_, hn, _⟩ := hlim; exact hn.lt
  have hPl : P < s.heap.objs.size := Heap.lt_size hTb.2
  refine wpAny_GeneratorExp_make hco hclos hcell h0 hkind hroom (hiter _ (wpAny_pyIter_list hl ?_)) hs
  have up : ∀ b o, s.heap.get? b = some o → (s.heap.push { cls := .type "list_iterator", data := .fields #[.ref l, .int 0 0] }).get? b = some o := fun b o e => Heap.get?_push_of_some _ e
  refine ⟨hlim.keeps up, ?_⟩
  refine wpAny_genexprCodeX hcode (hIs.keeps up) (hTb.keeps up) hnf fun c' h₃ tk₃ hx₃ hge hlt hcode₃ _ htab₃ _ => ?_
  have sz1 : (s.heap.push { cls := .type "list_iterator", data := .fields #[.ref l, .int 0 0] }).objs.size = s.heap.objs.size + 1 := Heap.size_push ..
  have hsz : s.heap.objs.size + 1 < h₃.objs.size := by
    have h1 := hge; have h2 := hlt
    dsimp only at h1 h2
    omega
  have M₃ := (hM.keeps up).extBut (hTb.keeps up) hx₃
  refine wpAny_builtinsFor M₃.ns M₃.name M₃.ne M₃.obj M₃.cls M₃.dict M₃.data ?_
  intro h' hn' hs'
  dsimp only at hn' hs' ⊢
  have hsz' : h'.objs.size = h₃.objs.size + 1 := by rw [hs'.1, Heap.size_push]
  have keep' : ∀ b o, h₃.get? b = some o → h'.get? b = some o := fun b o e => hs'.extBut b o (Nat.ne_of_lt (Heap.lt_size e)) (Heap.get?_push_of_some _ e)
  have keep₂ : ∀ b o, b ≠ P → (s.heap.push { cls := .type "list_iterator", data := .fields #[.ref l, .int 0 0] }).get? b = some o → h'.get? b = some o := fun b o hb e => keep' b o (hx₃ b o hb e)
  have keep : ∀ b o, b ≠ P → s.heap.get? b = some o → h'.get? b = some o := fun b o hb e => keep₂ b o hb (up b o e)
  have szI : s.heap.objs.size ≠ P := fun e => absurd (show s.heap.objs.size = P from e) (by omega)
  have hIt : h'.IsListIter s.heap.objs.size l 0 := ⟨_, keep₂ _ _ szI (Heap.get?_push_size _ rfl), rfl, rfl⟩
  have hl' : h'.IsList l xs := hl.at fun o e => keep _ _ hlP e
  have hk' : h'.IsCell k (some (.float b tb)) := let ⟨o, ho, hd⟩ := hkc; ⟨o, keep _ _ hkP ho, hd⟩
  have hlim' : h'.NoLimit := hlim.at fun o e => keep _ _ hcP e
  have push' : ∀ (o₁ : Obj) b o, h'.get? b = some o → (h'.push o₁).get? b = some o := fun o₁ b o e => Heap.get?_push_of_some _ e
  refine hQ h'.objs.size s.heap.objs.size h₃.objs.size c' _ _ _ rfl (Nat.le_refl _) (by omega) (by omega) (by rw [Heap.size_push]; exact Nat.lt_succ_self _) (let ⟨o, _, _, ho, _⟩ := hn'; ⟨o, push' _ _ _ ho⟩) (let ⟨o, ho, _⟩ := hIt; ⟨o, push' _ _ _ ho⟩) (fun b o hb e => push' _ b o (keep b o hb e)) (push' _ _ _ (keep' _ _ htab₃.2)) ?_
  · refine GenAt.fresh (A := A.in4) (cenv := genEnv scope [(y, k)] h₃.objs.size (.ref c') builtinsNs env) (m := fun y => if y = ".0" then some (.ref s.heap.objs.size) else none) (P := fun i v => xs[i]? = some v) (St₀ := fun i h => h.IsListIter s.heap.objs.size l i ∧ h.IsList l xs) hh
      (fun A' hA => (Walks.list hA s.heap.objs.size l (Nat.ne_of_lt hll) xs).mono_fp fun b hb => ?_) (fun _ => true) (subF fx b) hx (by simp [genEnv, hkind]) hco
      (fun hm => ?_) ?_ ⟨_, _, _, Heap.get?_push_size _ rfl, rfl, rfl, rfl⟩ (Array.getElem?_push_size ..) ⟨hIt.at fun o e => push' _ _ _ e, hl'.at fun o e => push' _ _ _ e⟩ (hn'.push _) (hlim'.push _)
    · simp only [List.mem_cons, List.not_mem_nil, or_false] at hb
      rcases hb with rfl | rfl
      · exact .head _
      · exact .tail _ (.head _)
    · simp only [List.mem_cons, List.not_mem_nil, or_false] at hm
      rcases hm with e | e | e | e
      · exact absurd (show h₃.objs.size = s.heap.objs.size from e) (by omega)
      · exact absurd (show h₃.objs.size = l from e) (by omega)
      · exact absurd (show h₃.objs.size = k from e) (by omega)
      · exact absurd (show h₃.objs.size = cStatics from e) (by omega)
    · refine ⟨fun A' E' i v s₂ m₂ hA hP hn hm hk => ?_, fun A' E' i v s₂ m₂ hA hP hpz hn hm hk => ?_⟩
      · exact wpAny_tests_nil ⟨rfl, s₂.heap, s₂.toks, rfl, fun _ _ e => e⟩
      · obtain ⟨t, rfl⟩ := hxs i v hP
        have hc2 : s₂.heap.IsCell k (some (.float b tb)) := let ⟨o, ho, hd⟩ := hk'; ⟨o, hk k (.tail _ (.tail _ (.head _))) (fun hm => absurd (show k = s.heap.objs.size from List.mem_singleton.mp hm) (by omega)) o (push' _ _ _ ho), hd⟩
        exact elt_sub hkind hx hn hm hdx hdy fun Q hq => wpAny_loadName_free hkind hy (by simp [genEnv, List.lookup]) hc2 hq hcy
end
section
variable {w : World} {p : Program} {loose : List Str} {mean : ExcName → Option Value} {mg mb : Str → Option Value} {A₀ A : Around} {base h₀ h h' : Heap} {outer : List Env} {L : Addr} {m : Str → Option Value} {news rest : List (Addr × Obj)} {s : Shared} {Q E : Value → Shared → Prop}
noncomputable abbrev tabObj (ps : Array Value) : Obj := { cls := .none, data := .fields ps }
theorem Cx.extSet {P : Addr} {o o' : Obj} (C : Cx w p loose mean mg mb A₀ base outer h₀ L m h ((P, o) :: rest)) (r : ∀ q ∈ rest, q.1 ≠ P) (hk : ∀ b x, b ≠ P → h.get? b = some x → h'.get? b = some x) (ho : h'.get? P = some o') :
    Cx w p loose mean mg mb A₀ base outer h₀ L m h' ((P, o') :: rest) := by
  have hm := C.N _ (.head _)
  refine ⟨C.B, ⟨C.F.ns.at fun o e => hk _ _ (Ne.symm hm.2.1) e, fun b o e => hk b o (fun q => ?_) (C.F.keep b o e), C.F.above⟩, C.X, fun q hq => ?_, C.T, C.XB, C.TB⟩
  · have h1 : h₀.get? P = none := hm.2.2
    rw [q, h1] at e; cases e
  · rcases List.mem_cons.mp hq with rfl | hq
    · exact ⟨ho, hm.2⟩
    · exact ⟨hk _ _ (r q hq) (C.N q (.tail _ hq)).1, (C.N q (.tail _ hq)).2⟩
theorem Cx.more {b : Nat} {o : Obj} (C : Cx w p loose mean mg mb A₀ base outer h₀ L m h news) (ho : h.get? b = some o) (hL : @LT.lt Nat _ L b) : Cx w p loose mean mg mb A₀ base outer h₀ L m h ((b, o) :: news) :=
  ⟨C.B, C.F, C.X, fun q hq => by
    rcases List.mem_cons.mp hq with rfl | hq
    · refine ⟨ho, Nat.ne_of_gt hL, ?_⟩
      cases q : h₀.get? b with
      | none => rfl
      | some x => exact absurd (Nat.lt_of_lt_of_le (Heap.lt_size q) C.F.above) (Nat.not_lt.mpr (Nat.le_of_lt hL))
    · exact C.N q hq, C.T, C.XB, C.TB⟩
theorem gen_cx {env : Env} {iter : Expr} {x y : Str} {p1 p2 bp px : Pos} {scope : Scope} {pos : Pos} {l k c P : Nat} {xs : Array Value} {fx : Nat → UInt64} {b : UInt64} {tb : Tok} {ps : Array Value}
    (C : Cx w p loose mean mg mb A₀ base outer h₀ L m s.heap ((P, tabObj ps) :: rest)) (r : ∀ q ∈ rest, q.1 ≠ P)
    (hh : A.handled = none) (hroom : A.depth < recursionLimit) (hco : scope.isCoroutine = false) (hclos : closureFor scope env = pure [(y, k)]) (hcell : ∀ y ∈ scope.names, y.2 ≠ .cell) (h0 : scope.names.lookup (".0" : Str) = some NameKind.local)
    (hx : scope.names.lookup x = some .local) (hy : scope.names.lookup y = some .free) (hkind : scope.kind = .function) (hs : ∀ x, genFold iter env x = pure x) (hdx : (x == ("__debug__" : Str)) = false) (hdy : (y == ("__debug__" : Str)) = false) (hcy : (y == ("__classdict__" : Str)) = false)
    (hcode : env.code = .ref c) (hglob : env.globals = mainGlobals) (hIs : s.heap.get? P = some (tabObj ps) → s.heap.IsCode c P ps ∧ s.heap.TableAt c P ps) (hnf : codeAmong pos ps.toList = none)
    (hiter : ∀ (Q' : Value → Shared → Prop), Q' (.ref l) s → wpAny (model PySem.Challenge.pw_ij0047_01 w) A (eval iter env) Q' E s)
    (hl : s.heap.IsList l xs) (hkc : s.heap.IsCell k (some (.float b tb))) (hlP : l ≠ P) (hkP : k ≠ P)
    (hxs : ∀ (i : Nat) (v : Value), xs[i]? = some v → ∃ t, v = .float (fx i) t)
    (hQ : ∀ (a I C' c' : Nat) (h' : Heap) (tk : Nat) (gs : GenState), gs.bare = true → s.heap.objs.size ≤ I → I < C' → C' < a → a < h'.objs.size → (∃ o, h'.get? C' = some o) → (∃ o, h'.get? I = some o) → (∀ b o, b ≠ P → s.heap.get? b = some o → h'.get? b = some o) →
      Cx w p loose mean mg mb A₀ base outer h₀ L m h' ((P, tabObj (ps ++ #[rawInt pos.line, rawInt pos.col, .ref c'])) :: rest) →
      GenSt PySem.Challenge.pw_ij0047_01 w A a s.gens.size C' I l k xs.size fx b 0 { s with gens := s.gens.push gs, toks := tk, heap := h' } → Q (.ref a) { s with gens := s.gens.push gs, toks := tk, heap := h' }) :
    wpAny (model PySem.Challenge.pw_ij0047_01 w) A (eval (.GeneratorExp (.BinOp (.Name x p1) .Sub (.Name y p2) bp) [⟨.Name x px, iter, [], 0⟩] scope pos) env) Q E s := by
  obtain ⟨hP, hPL, hP0⟩ := C.N _ (.head _)
  obtain ⟨bm, ob, b1, b2, b3, b4, b5, b6⟩ := C.T.bmain
  obtain ⟨i1, i2⟩ := hIs hP
  refine gen_make hh hroom hco hclos hcell h0 hx hy hkind hs hdx hdy hcy hcode i1 i2 hnf (C.T.nolimit.keeps C.F.keep) (fun e => ?_) (bm := bm) (ob := ob) (mg := mg) (by rw [hglob]; exact ⟨C.T.g.keeps C.F.keep, b1, b2, C.F.keep _ _ b3, b4, b5, b6⟩) hiter hl hkc hlP hkP hxs fun a I C' c' h' tk gs g1 g2 g3 g4 g5 ga gb g6 g7 g8 => ?_
  · obtain ⟨mc, hn, _⟩ := C.T.nolimit
    obtain ⟨o, es, ep, ho, _⟩ := hn
    rw [e, hP0] at ho; cases ho
  · exact hQ a I C' c' h' tk gs g1 g2 g3 g4 g5 ga gb g6 (C.extSet r g6 g7) g8
end

section
variable {prog : Program} {w : World} {A : Around} {E : Value → Shared → Prop} {Q : Value → Shared → Prop} {s : Shared}
theorem GenOnlyQ.other {g i : Nat} {a b : Array GenState} (x : GenOnlyQ g a b) (h : i ≠ g) : b[i]? = a[i]? := by
  rcases x with e | ⟨x, _⟩
  · rw [e]
  · exact x.2 i h
set_option maxRecDepth 100000 in
/-- sumprod of a list and a generator -/
theorem sumprod_lg {l₁ a g C I l k n : Nat} {ys : Array Value} {fx fy : Nat → UInt64} {b : UInt64} (hh : A.handled = none) (hroom : A.depth < recursionLimit) (h1 : s.heap.IsList l₁ ys) (hn : ys.size = n) (h0 : 0 < n)
    (G : GenSt prog w A a g C I l k n fy b 0 s) (low : ∀ z ∈ [a, C, I, l, k, cStatics], z < s.heap.objs.size) (hac : a ≠ C) (haf : a ∉ [I, l, k, cStatics]) (hcC : cStatics ≠ C) (hcI : cStatics ≠ I) (hlC : l₁ ≠ C) (hlI : l₁ ≠ I) (hb : AllBare s.gens)
    (hx : ∀ (i : Nat) (v : Value), ys[i]? = some v → ∃ t, v = .float (fx i) t)
    (hf : ∀ k, k < n → Float64.isFinite (tri fx (fun i => Float64.sub (fy i) b) (k + 1)).1 = true)
    (hQ : ∀ s' tk, (∀ b o, b ≠ C → b ≠ I → s.heap.get? b = some o → s'.heap.get? b = some o) → AllBare s'.gens → s'.drawn = s.drawn → s'.os = s.os →
      Q (.float (Float64.add (Float64.ofInt 0) (Builtin.Math.tlToFloat (tri fx (fun i => Float64.sub (fy i) b) n))) tk) s') :
    wpAny (model prog w) A (call (.builtin "math.sumprod") [.ref l₁, .ref a]) Q E s := by
  have hi : A.in1.handled = none := hh
  have hll : l₁ < s.heap.objs.size := by obtain ⟨_, e, _⟩ := h1; exact Heap.lt_size e
  subst hn
  refine sumprod_call (wpAny_pyIter_list h1 ?_)
  have up : ∀ b o, s.heap.get? b = some o → (s.heap.push { cls := .type "list_iterator", data := .fields #[.ref l₁, .int 0 0] }).get? b = some o := fun b o e => Heap.get?_push_of_some _ e
  have lz : ∀ z ∈ [a, C, I, l, k, cStatics], z ≠ s.heap.objs.size := fun z hz => Nat.ne_of_lt (low z hz)
  have G1 : GenSt prog w A a g C I l k ys.size fy b 0 { s with heap := s.heap.push { cls := .type "list_iterator", data := .fields #[.ref l₁, .int 0 0] } } := GenAt.move G (fun b _ o e => up b o e) (.tail _ (.tail _ (.tail _ (.head _)))) rfl
  have Wg1 := gen_walks (prog := prog) (w := w) (A := A) (g := g) (n := ys.size) (fx := fy) (b := b) hh hroom hac haf hcC hcI
  refine Wg1.self 0 _ _ _ G1 ?_
  have W := (Walks.list (prog := prog) (w := w) (A := A.in1) hi s.heap.objs.size l₁ (Nat.ne_of_lt hll) ys)
  dsimp only
  have sz : (s.heap.push { cls := .type "list_iterator", data := .fields #[.ref l₁, .int 0 0] }).objs.size = s.heap.objs.size + 1 := Heap.size_push ..
  have b0 : ∀ {b o}, (s.heap.push { cls := .type "list_iterator", data := .fields #[.ref l₁, .int 0 0] }).get? b = some o → ((s.heap.push { cls := .type "list_iterator", data := .fields #[.ref l₁, .int 0 0] }).push (triObj (tri (fun _ => 0) (fun _ => 0) 0))).get? b = some o := fun e => Heap.get?_push_of_some _ e
  refine sumprod_loopW (fx := fx) (fy := fun i => Float64.sub (fy i) b) (GI := AllBare) (n := ys.size) rfl W.toS Wg1 hx (fun i v h => h) (fun i a' b' hst m => ⟨hst.1.at fun o e => m.heap _ o ?_ e, hst.2.at fun o e => m.heap _ o ?_ e⟩) (fun i a' b' hst m => GenAt.move hst (fun z hz o e => m.heap z o ?_ e) (.tail _ (.tail _ (.tail _ (.head _)))) ?_)
    (fun a b e h => by have e' : b = a := e; rw [e']; exact h) (fun a b e h => e.bare h) hf ys.size 0 _ _ true false (Nat.zero_add _) (.inl ⟨rfl, h0, rfl, rfl⟩) hb ⟨⟨_, b0 (Heap.get?_push_size _ rfl), rfl, rfl⟩, (h1.at fun o e => b0 (up _ o e))⟩ (GenAt.move G1 (fun b _ o e => b0 e) (.tail _ (.tail _ (.tail _ (.head _)))) rfl) (Heap.get?_push_size _ rfl) ?_ ?_ fun s' tk r => ?_
  · simp only [List.mem_cons, List.not_mem_nil, or_false, not_or]
    exact ⟨fun e => lz C (.tail _ (.head _)) e.symm, fun e => lz I (.tail _ (.tail _ (.head _))) e.symm⟩
  · simp only [List.mem_cons, List.not_mem_nil, or_false, not_or]
    exact ⟨hlC, hlI⟩
  · exact fun hm => lz z hz (List.mem_singleton.mp hm)
  · have e' : b'.gens = a'.gens := m.gens
    rw [e']
  · intro z hz
    simp only [List.mem_cons, List.not_mem_nil, or_false] at hz
    rcases hz with rfl | rfl
    · show s.heap.objs.size < (s.heap.push _).objs.size; rw [sz]; exact Nat.lt_succ_self _
    · show z < (s.heap.push _).objs.size; rw [sz]; exact Nat.lt_succ_of_lt hll
  · intro z hz
    show z < (s.heap.push _).objs.size; rw [sz]; exact Nat.lt_succ_of_lt (low z hz)
  · refine hQ s' tk (fun z o hC hI e => r.heap z o (fun hm => ?_) (fun hm => ?_) (b0 (up _ _ e))) r.gens r.drawn r.os
    · exact absurd (List.mem_singleton.mp hm) (Nat.ne_of_lt (Heap.lt_size e))
    · simp only [List.mem_cons, List.not_mem_nil, or_false] at hm
      exact hm.elim hC hI
set_option maxRecDepth 100000 in
/-- sumprod of two generators -/
theorem sumprod_gg {a g C I l k a' g' C' I' l' k' n : Nat} {fx fy : Nat → UInt64} {b b' : UInt64} (hh : A.handled = none) (hroom : A.depth < recursionLimit) (h0 : 0 < n)
    (G : GenSt prog w A a g C I l k n fx b 0 s) (low : ∀ z ∈ [a, C, I, l, k, cStatics], z < s.heap.objs.size) (hac : a ≠ C) (haf : a ∉ [I, l, k, cStatics]) (hcC : cStatics ≠ C) (hcI : cStatics ≠ I)
    (G' : GenSt prog w A a' g' C' I' l' k' n fy b' 0 s) (low' : ∀ z ∈ [a', C', I', l', k', cStatics], z < s.heap.objs.size) (hac' : a' ≠ C') (haf' : a' ∉ [I', l', k', cStatics]) (hcC' : cStatics ≠ C') (hcI' : cStatics ≠ I')
    (ap : ∀ z ∈ [a, C, I, l, k, cStatics], z ∉ [C', I']) (ap' : ∀ z ∈ [a', C', I', l', k', cStatics], z ∉ [C, I]) (hg : g ≠ g') (hb : AllBare s.gens)
    (hf : ∀ k, k < n → Float64.isFinite (tri (fun i => Float64.sub (fx i) b) (fun i => Float64.sub (fy i) b') (k + 1)).1 = true)
    (hQ : ∀ s' tk, (∀ z o, z ∉ [C, I] → z ∉ [C', I'] → s.heap.get? z = some o → s'.heap.get? z = some o) → AllBare s'.gens → s'.drawn = s.drawn → s'.os = s.os →
      Q (.float (Float64.add (Float64.ofInt 0) (Builtin.Math.tlToFloat (tri (fun i => Float64.sub (fx i) b) (fun i => Float64.sub (fy i) b') n))) tk) s') :
    wpAny (model prog w) A (call (.builtin "math.sumprod") [.ref a, .ref a']) Q E s := by
  have W1 := gen_walks (prog := prog) (w := w) (A := A) (g := g) (n := n) (fx := fx) (b := b) hh hroom hac haf hcC hcI
  have W2 := gen_walks (prog := prog) (w := w) (A := A) (g := g') (n := n) (fx := fy) (b := b') hh hroom hac' haf' hcC' hcI'
  refine sumprod_call (W1.self 0 _ _ _ G (W2.self 0 _ _ _ G' ?_))
  have b0 : ∀ {b o}, s.heap.get? b = some o → (s.heap.push (triObj (tri (fun _ => 0) (fun _ => 0) 0))).get? b = some o := fun e => Heap.get?_push_of_some _ e
  refine sumprod_loopW (fx := fun i => Float64.sub (fx i) b) (fy := fun i => Float64.sub (fy i) b') (GI := AllBare) (n := n) rfl W1 W2 (fun i v h => h) (fun i v h => h)
    (fun i x y hst m => GenAt.move hst (fun z hz o e => m.heap z o (ap z hz) e) (.tail _ (.tail _ (.tail _ (.head _)))) (GenOnlyQ.other m.gens hg)) (fun i x y hst m => GenAt.move hst (fun z hz o e => m.heap z o (ap' z hz) e) (.tail _ (.tail _ (.tail _ (.head _)))) (GenOnlyQ.other m.gens (Ne.symm hg)))
    (fun a b e h => GenOnlyQ.bare e h) (fun a b e h => GenOnlyQ.bare e h) hf n 0 _ _ true false (Nat.zero_add _) (.inl ⟨rfl, h0, rfl, rfl⟩) hb (GenAt.move G (fun b _ o e => b0 e) (.tail _ (.tail _ (.tail _ (.head _)))) rfl) (GenAt.move G' (fun b _ o e => b0 e) (.tail _ (.tail _ (.tail _ (.head _)))) rfl) (Heap.get?_push_size _ rfl) low low' fun s' tk r => ?_
  exact hQ s' tk (fun z o h1 h2 e => r.heap z o h1 h2 (b0 e)) r.gens r.drawn r.os
theorem sumprod_gg2 {a g C I l k a' g' C' I' l' k' n N M : Nat} {fx fy : Nat → UInt64} {b b' : UInt64} (hh : A.handled = none) (hroom : A.depth < recursionLimit) (h0 : 0 < n)
    (hl : l < N) (hk : k < N) (hl' : l' < N) (hk' : k' < N) (hc : @LT.lt Nat _ cStatics N) (q1 : N ≤ I) (q2 : I < C) (q3 : C < a) (q4 : a < M) (w1 : M ≤ I') (w2 : I' < C') (w3 : C' < a') (w4 : a' < s.heap.objs.size)
    (G : GenSt prog w A a g C I l k n fx b 0 s) (G' : GenSt prog w A a' g' C' I' l' k' n fy b' 0 s) (hg : g ≠ g') (hb : AllBare s.gens)
    (hf : ∀ k, k < n → Float64.isFinite (tri (fun i => Float64.sub (fx i) b) (fun i => Float64.sub (fy i) b') (k + 1)).1 = true)
    (hQ : ∀ s' tk, (∀ z o, z < N → s.heap.get? z = some o → s'.heap.get? z = some o) → AllBare s'.gens → s'.drawn = s.drawn → s'.os = s.os →
      Q (.float (Float64.add (Float64.ofInt 0) (Builtin.Math.tlToFloat (tri (fun i => Float64.sub (fx i) b) (fun i => Float64.sub (fy i) b') n))) tk) s') :
    wpAny (model prog w) A (call (.builtin "math.sumprod") [.ref a, .ref a']) Q E s := by
  have gt : ∀ x : Nat, N ≤ x → cStatics ≠ x := fun x hx => Nat.ne_of_lt (Nat.lt_of_lt_of_le hc hx)
  have lo : ∀ {x y z u v : Nat}, x < s.heap.objs.size → y < s.heap.objs.size → z < s.heap.objs.size → u < s.heap.objs.size → v < s.heap.objs.size → ∀ q ∈ [x, y, z, u, v, cStatics], q < s.heap.objs.size := by
    intro x y z u v h1 h2 h3 h4 h5 q hq
    simp only [List.mem_cons, List.not_mem_nil, or_false] at hq
    rcases hq with rfl | rfl | rfl | rfl | rfl | rfl
    · exact h1
    · exact h2
    · exact h3
    · exact h4
    · exact h5
    · exact Nat.lt_of_lt_of_le hc (by omega)
  have nin : ∀ {x y z u : Nat}, x ≠ y → x ≠ z → x ≠ u → N ≤ x → x ∉ [y, z, u, cStatics] := by
    intro x y z u h1 h2 h3 h4 hm
    simp only [List.mem_cons, List.not_mem_nil, or_false] at hm
    rcases hm with e | e | e | e
    · exact h1 e
    · exact h2 e
    · exact h3 e
    · exact gt x h4 e.symm
  have ap : ∀ {x y z u v C I : Nat}, x ≠ C → x ≠ I → y ≠ C → y ≠ I → z ≠ C → z ≠ I → u ≠ C → u ≠ I → v ≠ C → v ≠ I → N ≤ C → N ≤ I → ∀ q ∈ [x, y, z, u, v, cStatics], q ∉ [C, I] := by
    intro x y z u v C I h1 h2 h3 h4 h5 h6 h7 h8 h9 h10 h11 h12 q hq
    simp only [List.mem_cons, List.not_mem_nil, or_false, not_or] at hq ⊢
    rcases hq with rfl | rfl | rfl | rfl | rfl | rfl
    · exact ⟨h1, h2⟩
    · exact ⟨h3, h4⟩
    · exact ⟨h5, h6⟩
    · exact ⟨h7, h8⟩
    · exact ⟨h9, h10⟩
    · exact ⟨gt _ h11, gt _ h12⟩
  refine sumprod_gg hh hroom h0 G (lo (by omega) (by omega) (by omega) (by omega) (by omega)) (by omega) (nin (by omega) (by omega) (by omega) (by omega)) (gt _ (by omega)) (gt _ (by omega))
    G' (lo (by omega) (by omega) (by omega) (by omega) (by omega)) (by omega) (nin (by omega) (by omega) (by omega) (by omega)) (gt _ (by omega)) (gt _ (by omega))
    (ap (by omega) (by omega) (by omega) (by omega) (by omega) (by omega) (by omega) (by omega) (by omega) (by omega) (by omega) (by omega)) (ap (by omega) (by omega) (by omega) (by omega) (by omega) (by omega) (by omega) (by omega) (by omega) (by omega) (by omega) (by omega))
    hg hb hf fun s' tk hk hgs hd ho => hQ s' tk (fun z o hz e => hk z o (fun hm => ?_) (fun hm => ?_) e) hgs hd ho
  · simp only [List.mem_cons, List.not_mem_nil, or_false] at hm
    rcases hm with e | e
    · exact absurd (show z = C from e) (by omega)
    · exact absurd (show z = I from e) (by omega)
  · simp only [List.mem_cons, List.not_mem_nil, or_false] at hm
    rcases hm with e | e
    · exact absurd (show z = C' from e) (by omega)
    · exact absurd (show z = I' from e) (by omega)
theorem sumprod_lg2 {l₁ a g C I l k n N : Nat} {ys : Array Value} {fx fy : Nat → UInt64} {b : UInt64} (hh : A.handled = none) (hroom : A.depth < recursionLimit) (h1 : s.heap.IsList l₁ ys) (hn : ys.size = n) (h0 : 0 < n)
    (hl : l < N) (hk : k < N) (hc : @LT.lt Nat _ cStatics N) (q1 : N ≤ I) (q2 : I < C) (q3 : C < a) (q4 : a < s.heap.objs.size) (hl1 : l₁ ≠ C) (hl2 : l₁ ≠ I)
    (G : GenSt prog w A a g C I l k n fy b 0 s) (hb : AllBare s.gens)
    (hx : ∀ (i : Nat) (v : Value), ys[i]? = some v → ∃ t, v = .float (fx i) t)
    (hf : ∀ k, k < n → Float64.isFinite (tri fx (fun i => Float64.sub (fy i) b) (k + 1)).1 = true)
    (hQ : ∀ s' tk, (∀ b o, b ≠ C → b ≠ I → s.heap.get? b = some o → s'.heap.get? b = some o) → AllBare s'.gens → s'.drawn = s.drawn → s'.os = s.os →
      Q (.float (Float64.add (Float64.ofInt 0) (Builtin.Math.tlToFloat (tri fx (fun i => Float64.sub (fy i) b) n))) tk) s') :
    wpAny (model prog w) A (call (.builtin "math.sumprod") [.ref l₁, .ref a]) Q E s := by
  have gt : ∀ x : Nat, N ≤ x → cStatics ≠ x := fun x hx => Nat.ne_of_lt (Nat.lt_of_lt_of_le hc hx)
  refine sumprod_lg hh hroom h1 hn h0 G ?_ (by omega) ?_ (gt _ (by omega)) (gt _ (by omega)) hl1 hl2 hb hx hf hQ
  · intro q hq
    simp only [List.mem_cons, List.not_mem_nil, or_false] at hq
    rcases hq with rfl | rfl | rfl | rfl | rfl | rfl
    · omega
    · omega
    · omega
    · omega
    · omega
    · exact Nat.lt_of_lt_of_le hc (by omega)
  · intro hm
    simp only [List.mem_cons, List.not_mem_nil, or_false] at hm
    rcases hm with e | e | e | e
    · exact absurd (show a = I from e) (by omega)
    · exact absurd (show a = l from e) (by omega)
    · exact absurd (show a = k from e) (by omega)
    · exact gt a (by omega) e.symm
end
section
variable {w : World} {p : Program} {loose : List Str} {mean : ExcName → Option Value} {mg mb : Str → Option Value} {A₀ A : Around} {base h₀ h h' : Heap} {outer : List Env} {L : Addr} {m : Str → Option Value} {news rest : List (Addr × Obj)} {s : Shared} {Q E : Value → Shared → Prop}
theorem Cx.keepLow {N : Nat} (C : Cx w p loose mean mg mb A₀ base outer h₀ L m h news) (hL : @LT.lt Nat _ L N) (hl : ∀ q ∈ news, @LT.lt Nat _ q.1 N) (hk : ∀ (b : Nat) o, b < N → h.get? b = some o → h'.get? b = some o) : Cx w p loose mean mg mb A₀ base outer h₀ L m h' news :=
  ⟨C.B, ⟨C.F.ns.at fun o e => hk _ _ hL e, fun b o e => hk b o (Nat.lt_of_lt_of_le (Heap.lt_size e) (Nat.le_trans C.F.above (Nat.le_of_lt hL))) (C.F.keep b o e), C.F.above⟩, C.X, fun q hq => ⟨hk _ _ (hl q hq) (C.N q hq).1, (C.N q hq).2⟩, C.T, C.XB, C.TB⟩
theorem Cx.statics {N : Nat} (C : Cx w p loose mean mg mb A₀ base outer h₀ L m h news) (hL : @LT.lt Nat _ L N) : @LT.lt Nat _ cStatics N := by
  obtain ⟨mc, hn, _⟩ := C.T.nolimit
  have h1 : @LT.lt Nat _ cStatics h₀.objs.size := hn.lt
  exact Nat.lt_of_lt_of_le h1 (Nat.le_trans C.F.above (Nat.le_of_lt hL))
end

section
variable {w : World} {p : Program} {loose : List Str} {mean : ExcName → Option Value} {mg mb : Str → Option Value} {dp un : Nat} {gd : Option (List Code)} {cn : Str} {cs : Scope} {a : Addr} {ccd : Value} {cl : List (Str × Addr)} {outer : List Env} {A₀ : Around} {base h₀ : Heap} {L : Addr} {m : Str → Option Value} {news rest : List (Addr × Obj)} {s : Shared} {Q E : Value → Shared → Prop}
theorem bindL_two {k : Str → Option NameKind} {a b : Str} {x y : Value} (ha : k a = some .local) (hb : k b = some .local) :
    bindL k [(a, x), (b, y)] (fun _ => none) = fun q => if q = b then some y else if q = a then some x else none := by
  simp only [bindL, ha, hb, if_true]
theorem bindC_two {k : Str → Option NameKind} {a b : Str} {x y : Value} (ha : k a = some .local) (hb : k b = some .local) :
    bindC k [(a, x), (b, y)] (fun _ => none) = fun _ => none := by
  simp only [bindC, ha, hb, if_true]
theorem lin_enter {x y : Value} {R : Result → Shared → Prop} (C : Cx w p loose mean mg mb A₀ base outer h₀ L m s.heap news) (hD : Docs base) (hk : cs.kind = .function) (hd : dp < recursionLimit)
    (h : ∀ t g L' h₁ tk o1 o2, o1.data = .cell none → o2.data = .cell none → Fr h₀ L g m → Cx w p loose mean mg mb (ktrTop dp un gd cn cs L a ccd cl outer) base (envX cn cs L a ccd cl :: outer) g L' (fun q => if q = Str.ofString "proportional" then some (.bool false) else if q = Str.ofString "y" then some y else if q = Str.ofString "x" then some x else none) h₁ ((L' + 1 + 1, o1) :: (L' + 1, o2) :: news) →
      (∀ q ∈ news, q.1 < L') →
      wpAny (model PySem.Challenge.pw_ij0047_01 w) ((ktrTop dp un gd cn cs L a ccd cl outer).deeper (envOfC (Str.ofString "linear_regression") (scOf (topSt 22)) L' 418 (.ref 417))) (execs (redocL t (sansDoc (bodyOf (topSt 22)))) (envOfC (Str.ofString "linear_regression") (scOf (topSt 22)) L' 418 (.ref 417)))
        (fun fl s' => LeaveT A₀ base (envX cn cs L a ccd cl) outer h₀ L m g R (match fl with | .ret v => v | _ => .none) s')
        (fun e s' => wpAny (model PySem.Challenge.pw_ij0047_01 w) ((ktrTop dp un gd cn cs L a ccd cl outer).deeper (envOfC (Str.ofString "linear_regression") (scOf (topSt 22)) L' 418 (.ref 417))) (leaving (envOfC (Str.ofString "linear_regression") (scOf (topSt 22)) L' 418 (.ref 417)) e) (fun _ s'' => R (.error e) s'') (fun e' s'' => R (.error e') s'') s')
        { s with heap := h₁, toks := tk }) :
    codeAny (model PySem.Challenge.pw_ij0047_01 w) (ktrTop dp un gd cn cs L a ccd cl outer) (.call (.ref 418) ⟨[x, y], []⟩) R s := by
  obtain ⟨v, t, ho⟩ := (C.docs hD).lin
  refine callT_cells C.B C.F C.N C.T.nolimit rfl rfl hk ho rfl (codeRec_of (C.X.keeps C.F.keep) rfl) hd (lin_binds (C.X.keeps C.F.keep) x y v t) (kindsX (by exact rfl)) (by decide +kernel) (fun g L' h₁ tk cells FG F' N' Y B' st lt => ?_) rfl rfl rfl
  rw [bindL_three rfl rfl rfl] at F'
  rw [bindC_three rfl rfl rfl] at Y
  cases Y with
  | cons d1 Y =>
    cases Y with
    | cons d2 Y =>
      cases Y
      exact h t g L' h₁ tk _ _ d1 d2 FG ⟨B', F', C.X.keeps st, N', C.T.keeps st, C.XB, C.TB⟩ lt
theorem cov_enter {x y : Value} {R : Result → Shared → Prop} (C : Cx w p loose mean mg mb A₀ base outer h₀ L m s.heap news) (hD : Docs base) (hk : cs.kind = .function) (hd : dp < recursionLimit)
    (h : ∀ t g L' h₁ tk o1 o2, o1.data = .cell none → o2.data = .cell none → Fr h₀ L g m → Cx w p loose mean mg mb (ktrTop dp un gd cn cs L a ccd cl outer) base (envX cn cs L a ccd cl :: outer) g L' (fun q => if q = Str.ofString "y" then some y else if q = Str.ofString "x" then some x else none) h₁ ((L' + 1 + 1, o1) :: (L' + 1, o2) :: news) →
      (∀ q ∈ news, q.1 < L') →
      wpAny (model PySem.Challenge.pw_ij0047_01 w) ((ktrTop dp un gd cn cs L a ccd cl outer).deeper (envOfC (Str.ofString "covariance") (scOf (topSt 19)) L' 335 (.ref 334))) (execs (redocL t (sansDoc (bodyOf (topSt 19)))) (envOfC (Str.ofString "covariance") (scOf (topSt 19)) L' 335 (.ref 334)))
        (fun fl s' => LeaveT A₀ base (envX cn cs L a ccd cl) outer h₀ L m g R (match fl with | .ret v => v | _ => .none) s')
        (fun e s' => wpAny (model PySem.Challenge.pw_ij0047_01 w) ((ktrTop dp un gd cn cs L a ccd cl outer).deeper (envOfC (Str.ofString "covariance") (scOf (topSt 19)) L' 335 (.ref 334))) (leaving (envOfC (Str.ofString "covariance") (scOf (topSt 19)) L' 335 (.ref 334)) e) (fun _ s'' => R (.error e) s'') (fun e' s'' => R (.error e') s'') s')
        { s with heap := h₁, toks := tk }) :
    codeAny (model PySem.Challenge.pw_ij0047_01 w) (ktrTop dp un gd cn cs L a ccd cl outer) (.call (.ref 335) ⟨[x, y], []⟩) R s := by
  obtain ⟨v, t, ho⟩ := (C.docs hD).cov
  refine callT_cells C.B C.F C.N C.T.nolimit rfl rfl hk ho rfl (codeRec_of (C.X.keeps C.F.keep) rfl) hd (cov_binds (C.X.keeps C.F.keep) x y v t) (kindsX (by exact rfl)) (by decide +kernel) (fun g L' h₁ tk cells FG F' N' Y B' st lt => ?_) rfl rfl rfl
  rw [bindL_two rfl rfl] at F'
  rw [bindC_two rfl rfl] at Y
  cases Y with
  | cons d1 Y =>
    cases Y with
    | cons d2 Y =>
      cases Y
      exact h t g L' h₁ tk _ _ d1 d2 FG ⟨B', F', C.X.keeps st, N', C.T.keeps st, C.XB, C.TB⟩ lt
end

section
variable {w : World} {p : Program} {loose : List Str} {mean : ExcName → Option Value} {mg mb : Str → Option Value} {dp un : Nat} {gd : Option (List Code)} {cn : Str} {cs : Scope} {a : Addr} {ccd : Value} {cl : List (Str × Addr)} {outer : List Env} {A₀ : Around} {base h₀ : Heap} {L : Addr} {m : Str → Option Value} {news rest : List (Addr × Obj)} {s : Shared} {Q E : Value → Shared → Prop}
theorem code334 {P : Params} {h₀ h : Heap} {ps : Array Value} (X : (KM P).In h₀) (k : ∀ b o, h₀.get? b = some o → h.get? b = some o) (tr : TriplesOk ps.toList) (e : h.get? 330 = some (tabObj ps)) : h.IsCode 334 330 ps ∧ h.TableAt 334 330 ps :=
  ⟨⟨_, _, _, _, _, _, _, _, _, _, k _ _ (X 334 _ rfl), rfl, rfl, rfl, rfl, rfl, rfl, e, rfl, tr, by decide⟩, ⟨_, _, k _ _ (X 334 _ rfl), rfl, rfl, rfl⟩, e⟩
theorem store_cell {M : Model} {A : Around} {env : Env} {y : Str} {c : Addr} {o : Obj} {v : Value} {v₀ : Option Value} {Q : Unit → Shared → Prop} (C : Cx w p loose mean mg mb A₀ base outer h₀ L m s.heap ((c, o) :: rest)) (r : ∀ q ∈ rest, q.1 ≠ c) (hk : env.scope.kind = .function)
    (hl : env.kindOf y = some .cell) (hc : env.cells.lookup y = some c) (hd : o.data = .cell v₀)
    (h : ∀ h' o', o'.data = .cell (some v) → Cx w p loose mean mg mb A₀ base outer h₀ L m h' ((c, o') :: rest) → Q () { s with heap := h' }) : wpAny M A (storeName env y v) Q E s :=
  wpAny_storeName_cell hk hl hc ⟨o, (C.N _ (.head _)).1, hd⟩ fun h' hv hs => by
    obtain ⟨o', ho, hd'⟩ := hv
    exact h h' o' hd' (C.setHead r hs ho)
local macro_rules | `(tactic| omega) => `(tactic| (show False; with_reducible contradiction))
set_option maxRecDepth 100000 in
set_option maxHeartbeats 2000000 in
theorem cov_call {l1 l2 n : Nat} {ol1 ol2 : Obj} {xs ys : Array Value} {fx fy : Nat → UInt64} {p₁ p₂ : Nat → Nat} (hn : 2 ≤ n) (hn1 : n < 64) (hxs : xs.size = n) (hys : ys.size = n)
  (C : Cx w p loose mean mg mb A₀ base outer h₀ L m s.heap ((330, tabObj #[]) :: news)) (hD : Docs base) (hk : cs.kind = .function) (hd : dp + 80 < recursionLimit) (hu : un + 300 < cLine)
  (r : ∀ q ∈ news, q.1 ≠ 330) (m1 : (l1, ol1) ∈ news) (hol1 : ol1.cls = .type "list") (hod1 : ∃ ep, ol1.data = .seq xs ep)
  (m2 : (l2, ol2) ∈ news) (hol2 : ol2.cls = .type "list") (hod2 : ∃ ep, ol2.data = .seq ys ep)
  (hx : ∀ (i : Nat) (v : Value), xs[i]? = some v → ∃ t, v = .float (fx i) t) (hy : ∀ (i : Nat) (v : Value), ys[i]? = some v → ∃ t, v = .float (fy i) t)
  (hux : ∀ i, i < n → Ex (fx i) (256 * ((p₁ i : Int) + 1))) (huy : ∀ i, i < n → Ex (fy i) (256 * ((p₂ i : Int) + 1))) (P1 : Bij n p₁) (P2 : Bij n p₂) (hgb : AllBare s.gens)
  (hret : ∀ (g h' : Heap) (gs : Array GenState) (tk tk' : Nat) (ps' : Array Value) (f : UInt64), KtsTurn (outer.filterMap (·.frame)) h₀ g → AllBare gs → Rd f (64 * DD n p₁ p₂) (((n : Int) - 1) * 256).natAbs → Cx w p loose mean mg mb A₀ base outer g L m h' ((330, tabObj ps') :: news) → Q (.float f tk) { s with heap := h', gens := gs, toks := tk' }) :
  wpAny (model PySem.Challenge.pw_ij0047_01 w) (ktrTop dp un gd cn cs L a ccd cl outer) (call (.ref 335) [.ref l1, .ref l2]) Q E s := by
  have a2 := Ar.lt2 hn
  have a3 := Ar.i0 hn
  have a4 := Ar.big hn1
  have a5 := Ar.i1 hn
  have a6 := Ar.big1 hn1 hn
  refine wpAny_call (cov_enter C hD hk (by omega) ?_)
  intro t g L' h₁ tk0 o1 o2 d1 d2 FG C' lt
  have XB := C'.XB
  have TB := C'.TB
  have B := C'.B
  have T := C'.T
  have X := C'.X
  have N := C'.N
  have F := C'.F
  clear C' C
  have lt0 : @LT.lt Nat _ 330 L' := lt _ (.head _)
  have ltn : ∀ q ∈ news, @LT.lt Nat _ q.1 L' := fun q hq => lt q (.tail _ hq)
  have nl : ∀ j : Nat, ∀ q ∈ news, q.1 ≠ L' + j := fun j q hq => Nat.ne_of_lt (Nat.lt_of_lt_of_le (ltn q hq) (Nat.le_add_right _ _))
  k_lt lt
  have sz1 : (xs.size : Int) = (n : Int) := Ar.cast hxs
  have sz2 : (ys.size : Int) = (n : Int) := Ar.cast hys
  k_steps
  rename News _ _ _ _ => N1
  refine ⟨kun_lenL ⟨ol1, (N1 _ (.tail _ (.tail _ (.tail _ m1)))).1, hol1, hod1⟩ sz1 (Ar.le16 hn1) ?_⟩
  k_steps
  rename News _ _ _ _ => N2
  refine ⟨kun_lenL ⟨ol2, (N2 _ (.tail _ (.tail _ (.tail _ m2)))).1, hol2, hod2⟩ sz2 (Ar.le16 hn1) ?_⟩
  k_steps
  rename News _ _ _ _ => N3
  rename Fr _ _ _ _ => F3
  have C3 : Cx w p loose mean mg mb _ base _ g L' _ _ _ := ⟨B, F3, X, N3, T, XB, TB⟩
  have nn : Ex (Float64.ofInt (n : Int)) ((n : Int) * 256) := Ex.ofInt (Ar.b53 hn1)
  have zn : Float64.isZero (Float64.ofInt (n : Int)) = false := nn.nonzero (Ar.nz hn)
  have WX : Walkable _ l1 xs := .inl ⟨ol1, (N3 _ (.tail _ (.tail _ (.tail _ m1)))).1, hol1, hod1⟩
  refine fsum_cx C3 rfl WX (Ar.pos hxs hn) (Ar.lt4 hxs hn1) hx (u := fun i => 256 * ((p₁ i : Int) + 1)) (by rw [hxs]; exact hux) (fun i _ => Ar.up0 _) (fun i hi => Ar.up30 (P1.lt i (hxs ▸ hi)) hn1) ?_
  intro h4 tkf tk4 sx Esx htk4 C4
  have F4 := C4.F
  have N4 := C4.N
  clear C4 C3 N3 F3 WX
  k_steps
  rename News _ _ _ _ => N5
  rename Fr _ _ _ _ => F5
  have C5 : Cx w p loose mean mg mb _ base _ g L' _ _ _ := ⟨B, F5, X, N5, T, XB, TB⟩
  refine store_cell (c := L' + 1) (o := o2) (rest := (L' + 1 + 1, o1) :: (330, tabObj #[]) :: news) (C5.sub (by tb_start)) ?_ rfl rfl rfl d2 ?_
  · exact List.forall_mem_cons.2 ⟨neN (by omega), List.forall_mem_cons.2 ⟨neN (by omega), nl 1⟩⟩
  intro h6 o2' d2' C6
  have F6 := C6.F
  have N6 := C6.N
  clear C6 C5 N5 F5
  k_steps
  rename News _ _ _ _ => N7
  rename Fr _ _ _ _ => F7
  have C7 : Cx w p loose mean mg mb _ base _ g L' _ _ _ := ⟨B, F7, X, N7, T, XB, TB⟩
  have WY : Walkable _ l2 ys := .inl ⟨ol2, (N7 _ (.tail _ (.tail _ (.tail _ m2)))).1, hol2, hod2⟩
  refine fsum_cx C7 rfl WY (Ar.pos hys hn) (Ar.lt4 hys hn1) hy (u := fun i => 256 * ((p₂ i : Int) + 1)) (by rw [hys]; exact huy) (fun i _ => Ar.up0 _) (fun i hi => Ar.up30 (P2.lt i (hys ▸ hi)) hn1) ?_
  intro h8 tkf8 tk8 sy Esy htk8 C8
  have F8 := C8.F
  have N8 := C8.N
  clear C8 C7 N7 F7 WY
  k_steps
  rename News _ _ _ _ => N9
  rename Fr _ _ _ _ => F9
  have C9 : Cx w p loose mean mg mb _ base _ g L' _ _ _ := ⟨B, F9, X, N9, T, XB, TB⟩
  refine store_cell (c := L' + 1 + 1) (o := o1) (rest := (L' + 1, o2') :: (330, tabObj #[]) :: news) (C9.sub (by tb_start)) ?_ rfl rfl rfl d1 ?_
  · exact List.forall_mem_cons.2 ⟨neN (by omega), List.forall_mem_cons.2 ⟨neN (by omega), nl 2⟩⟩
  intro h10 o1' d1' C10
  have F10 := C10.F
  have N10 := C10.N
  clear C9 N9 F9
  k_steps
  have r330 : ∀ q ∈ (L' + 1 + 1, o1') :: (L' + 1, o2') :: news, q.1 ≠ 330 := List.forall_mem_cons.2 ⟨neN (by omega), List.forall_mem_cons.2 ⟨neN (by omega), r⟩⟩
  refine ⟨gen_cx (rest := (L' + 1 + 1, o1') :: (L' + 1, o2') :: news) (l := l1) (k := L' + 1) (c := 334) (P := 330) (ps := #[]) (xs := xs) (fx := fx) (C10.sub (by tb_start)) r330 rfl (by ktr_room) rfl (by with_unfolding_all rfl) (by decide) (by decide) (by decide) (by decide) rfl (by intro _; with_unfolding_all rfl) (by decide) (by decide) (by decide) rfl rfl (fun e => code334 X F10.keep trivial e) rfl
    (fun Q' hq => wpAny_Name (wpAny_loadName_local rfl rfl F10.ns rfl hq)) ⟨ol1, (N10 _ (.tail _ (.tail _ (.tail _ m1)))).1, hol1, hod1⟩ ⟨o2', (N10 _ (.tail _ (.head _))).1, d2'⟩ (r _ m1) (neN (by omega)) hx ?_⟩
  intro a1 I1 Ca1 cc1 h12 tk12 gs1 gb1 q1 q2 q3 q4 _ _ q5 C12 G1
  k_steps
  have F12 := C12.F
  have N12 := C12.N
  refine ⟨gen_cx (rest := (L' + 1 + 1, o1') :: (L' + 1, o2') :: news) (l := l2) (k := L' + 1 + 1) (c := 334) (P := 330) (xs := ys) (fx := fy) C12 r330 rfl (by ktr_room) rfl (by with_unfolding_all rfl) (by decide) (by decide) (by decide) (by decide) rfl (by intro _; with_unfolding_all rfl) (by decide) (by decide) (by decide) rfl rfl (fun e => code334 X F12.keep trivial e) rfl
    (fun Q' hq => wpAny_Name (wpAny_loadName_local rfl rfl F12.ns rfl hq)) ⟨ol2, (N12 _ (.tail _ (.tail _ (.tail _ m2)))).1, hol2, hod2⟩ ⟨o1', (N12 _ (.tail _ (.head _))).1, d1'⟩ (r _ m2) (neN (by omega)) hy ?_⟩
  intro a2 I2 Ca2 cc2 h14 tk14 gs2 gb2 w1 w2 w3 w4 _ _ w5 C14 G2
  k_steps
  have z10 : @LT.lt Nat _ L' h10.objs.size := F10.ns.lt
  have z1 : l1 < h10.objs.size := Heap.lt_size (N10 _ (.tail _ (.tail _ (.tail _ m1)))).1
  have z2 : l2 < h10.objs.size := Heap.lt_size (N10 _ (.tail _ (.tail _ (.tail _ m2)))).1
  have z3 : @LT.lt Nat _ (L' + 1) h10.objs.size := Heap.lt_size (N10 _ (.tail _ (.head _))).1
  have z4 : @LT.lt Nat _ (L' + 1 + 1) h10.objs.size := Heap.lt_size (N10 _ (.head _)).1
  have z5 : @LT.lt Nat _ 330 h10.objs.size := Heap.lt_size (N10 _ (.tail _ (.tail _ (.head _)))).1
  have zc := C10.statics z10
  dsimp only at q1 w1
  have xb : Ex (Float64.div sx (Float64.ofInt (n : Int))) (128 * ((n : Int) + 1)) := by
    have e := sum_places P1
    rw [hxs] at Esx
    refine Esx.div nn (Ar.p256 hn) ?_ (Ar.b128 hn1)
    rw [e]; exact Ar.sq n
  have yb : Ex (Float64.div sy (Float64.ofInt (n : Int))) (128 * ((n : Int) + 1)) := by
    have e := sum_places P2
    rw [hys] at Esy
    refine Esy.div nn (Ar.p256 hn) ?_ (Ar.b128 hn1)
    rw [e]; exact Ar.sq n
  have cx : ∀ i, i < n → Ex (Float64.sub (fx i) (Float64.div sx (Float64.ofInt (n : Int)))) (128 * cen n (p₁ i)) := fun i hi => by
    have a := P1.lt i hi
    have e := (hux i hi).sub xb (Ar.d53 a hn1)
    have e2 : 256 * ((p₁ i : Int) + 1) - 128 * ((n : Int) + 1) = 128 * cen n (p₁ i) := Ar.cenE _ _
    rwa [e2] at e
  have cy : ∀ i, i < n → Ex (Float64.sub (fy i) (Float64.div sy (Float64.ofInt (n : Int)))) (128 * cen n (p₂ i)) := fun i hi => by
    have a := P2.lt i hi
    have e := (huy i hi).sub yb (Ar.d53 a hn1)
    have e2 : 256 * ((p₂ i : Int) + 1) - 128 * ((n : Int) + 1) = 128 * cen n (p₂ i) := Ar.cenE _ _
    rwa [e2] at e
  have nxy := sum_ranks P1.lt P2.lt hn1 cx cy
  have G1' := GenAt.move G1 (s' := { heap := h14, gens := (s.gens.push gs1).push gs2, drawn := s.drawn, toks := tk14, os := s.os }) (fun b hb o e => w5 b o (fun q => ?ne) e) (.tail _ (.tail _ (.tail _ (.head _)))) (by simp [Array.getElem?_push])
  case ne =>
    simp only [List.mem_cons, List.not_mem_nil, or_false] at hb
    rcases hb with e | e | e | e | e | e
    · exact absurd (show a1 = 330 from e.symm.trans q) (by omega)
    · exact absurd (show Ca1 = 330 from e.symm.trans q) (by omega)
    · exact absurd (show I1 = 330 from e.symm.trans q) (by omega)
    · exact r _ m1 (e.symm.trans q)
    · exact absurd (show (L' + 1 : Nat) = 330 from e.symm.trans q) (Nat.ne_of_gt (Nat.lt_succ_of_lt lt0))
    · exact absurd (e.symm.trans q) (by decide)
  rw [hxs] at G1'
  rw [hys] at G2
  refine sumprod_gg2 rfl (by ktr_room) (by omega) z1 z3 z2 z4 zc q1 q2 q3 q4 w1 w2 w3 w4 G1' G2 (by simp) (hgb.push gb1 |>.push gb2) (fun k hk => nxy.2 _ (by omega)) ?_
  intro s' tks hk hgs hd ho
  obtain ⟨h15, gs15, dr15, tk15, os15⟩ := s'
  dsimp only at hk hgs hd ho ⊢
  subst hd ho
  have C15 := C14.keepLow (N := h10.objs.size) z10 ?low hk
  case low => exact List.forall_mem_cons.2 ⟨z5, List.forall_mem_cons.2 ⟨z4, List.forall_mem_cons.2 ⟨z3, fun q hq => Nat.lt_trans (ltn q hq) z10⟩⟩⟩
  have F15 := C15.F
  have N15 := C15.N
  clear C15 C14 C12 C10 G1 G2 G1' N12 F12 N10 F10
  k_steps
  exact hret _ _ gs15 _ _ _ _ (by assumption) hgs (Rd.div nxy.1 (Ex.ofInt (i := (n : Int) - 1) (Ar.b531 hn1 hn)) (Ar.p2561 hn) (by have := DD_abs P1 P2 hn1; omega)) (by kwd_rel)
end

section
variable {w : World} {p : Program} {loose : List Str} {mean : ExcName → Option Value} {mg mb : Str → Option Value} {A₀ A : Around} {base h₀ h h' : Heap} {outer : List Env} {L : Addr} {m : Str → Option Value} {news rest : List (Addr × Obj)} {s : Shared} {E : Value → Shared → Prop}
theorem paired_at {F : Value → Value → Prop} {vs ys : List Value} (P : Paired F vs ys) : ∀ (i : Nat) (y : Value), ys[i]? = some y → ∃ v, vs[i]? = some v ∧ F v y := by
  induction P with
  | nil => intro i y e; cases e
  | cons h r ih =>
    intro i y e
    cases i with
    | zero => cases e; exact ⟨_, rfl, h⟩
    | succ i => exact ih i y e
theorem paired_len {F : Value → Value → Prop} {vs ys : List Value} (P : Paired F vs ys) : ys.length = vs.length := by
  induction P with
  | nil => rfl
  | cons _ _ ih => exact congrArg (· + 1) ih
theorem comp_sub {env : Env} {iter : Expr} {x y z : Str} {p1 p2 bp px pz : Pos} {scope : Scope} {pos spos : Pos} {Q : Flow → Shared → Prop} {l k : Nat} {xs : Array Value} {fx : Nat → UInt64} {b : UInt64} {tb : Tok}
    (C : Cx w p loose mean mg mb A₀ base outer h₀ L m s.heap news) (hL : env.locals = L) (hh : A.handled = none) (hclos : closureFor scope env = pure [(y, k)]) (hcell : ∀ y ∈ scope.names, y.2 ≠ .cell)
    (hnames : ∀ z ∈ scope.names, z.2 = .local → scope.names.lookup z.1 = some .local) (hx : scope.names.lookup x = some .local) (hkind : scope.kind = .function) (hs : ∀ x, foldedSetIterable iter env x = pure x)
    (hyk : ∀ C, (compEnvC scope [(y, k)] C env).kindOf y = some .cell)
    (hdx : (x == ("__debug__" : Str)) = false) (hdy : (y == ("__debug__" : Str)) = false)
    (hsw : swapsWith (.ListComp (.BinOp (.Name x p1) .Sub (.Name y p2) bp) [⟨.Name x px, iter, [], 0⟩] scope pos) (some (.Name z pz)) spos.line env = pure true)
    (hz : env.kindOf z = some .local) (hp : (env.scope.kind == .class || (env.scope.kind == .module && env.locals != env.globals)) = false)
    (hiter : ∀ (Q' : Value → Shared → Prop), Q' (.ref l) s → wpAny (model PySem.Challenge.pw_ij0047_01 w) A (eval iter env) Q' E s)
    (hl : s.heap.IsList l xs) (hsz : xs.size ≤ sizeLine) (hkc : s.heap.IsCell k (some (.float b tb)))
    (hxs : ∀ (i : Nat) (v : Value), xs[i]? = some v → ∃ t, v = .float (fx i) t)
    (hQ : ∀ (D : Nat) (h' : Heap) (tk : Nat) (ys : Array Value) (o : Obj) (n : Nat), o.cls = .type "list" → o.data = .seq ys n → ys.size = xs.size → (∀ (i : Nat) (v : Value), ys[i]? = some v → ∃ t, v = .float (Float64.sub (fx i) b) t) → (∀ q ∈ news, q.1 ≠ D) →
      Cx w p loose mean mg mb A₀ base outer h₀ L (fun q => if q = z then some (.ref D) else m q) h' ((D, o) :: news) → Q .next { s with heap := h', toks := tk }) :
    wpAny (model PySem.Challenge.pw_ij0047_01 w) A (exec (.Assign [.Name z pz] (.ListComp (.BinOp (.Name x p1) .Sub (.Name y p2) bp) [⟨.Name x px, iter, [], 0⟩] scope pos) spos) env) Q E s := by
  have hll : l < s.heap.objs.size := by obtain ⟨_, e, _⟩ := hl; exact Heap.lt_size e
  have hkl : k < s.heap.objs.size := by obtain ⟨_, e, _⟩ := hkc; exact Heap.lt_size e
  have hLl : @LT.lt Nat _ L s.heap.objs.size := C.F.ns.lt
  have up : ∀ b o, s.heap.get? b = some o → (s.heap.push { cls := .type "list_iterator", data := .fields #[.ref l, .int 0 0] }).get? b = some o := fun b o e => Heap.get?_push_of_some _ e
  have sz1 : (s.heap.push { cls := .type "list_iterator", data := .fields #[.ref l, .int 0 0] }).objs.size = s.heap.objs.size + 1 := Heap.size_push ..
  refine wpAny_Assign_ListComp_free (fun _ => true) (fun v y => ∀ c t, v = .float c t → ∃ t', y = .float (Float64.sub c b) t') hsw hclos hcell hkind hnames hx hz hp (hiter _ (wpAny_pyIter_list hl ?_)) hs
  refine ⟨s.heap.objs.size, _, _, xs.size, _, _, m, rfl, Walks.list hh s.heap.objs.size l (Nat.ne_of_lt hll) xs, hsz, ⟨⟨_, Heap.get?_push_size _ rfl, rfl, rfl⟩, hl.at fun o e => up _ o e⟩, ?_, ?_, ?_, ?_, ?_⟩
  · intro b hb
    simp only [List.mem_cons, List.not_mem_nil, or_false] at hb
    rcases hb with rfl | rfl
    · show s.heap.objs.size < (s.heap.push _).objs.size; rw [sz1]; exact Nat.lt_succ_self _
    · show b < (s.heap.push _).objs.size; rw [sz1]; exact Nat.lt_succ_of_lt hll
  · rw [hL]; intro hm; exact absurd (List.mem_singleton.mp hm) (Nat.ne_of_lt hLl)
  · rw [hL]; exact C.F.ns.at fun o e => up _ o e
  · refine ⟨fun C' i v s₃ m₃ E' _ _ _ _ _ _ => wpAny_tests_nil ⟨rfl, s₃.heap, s₃.toks, rfl, fun _ _ e => e⟩, fun C' i v s₃ m₃ E' _ hP _ hn hm hk _ => ?_⟩
    obtain ⟨t, rfl⟩ := hxs i v hP
    have hc2 : s₃.heap.IsCell k (some (.float b tb)) := let ⟨o, ho, hd⟩ := hkc; ⟨o, hk k o (fun hm => absurd (List.mem_singleton.mp hm) (Nat.ne_of_lt hkl)) (up _ _ ho), hd⟩
    have hkr : (compEnvC scope [(y, k)] C' env).scope.kind = .function := by simp [compEnvC, relabel, hkind]
    refine wpAny_mono (elt_sub (cenv := compEnvC scope [(y, k)] C' env) hkr (lookup_relabel_local hx) hn hm hdx hdy fun Q hq => wpAny_loadName_cell hkr (hyk C') (by simp [compEnvC]) hc2 hq) (fun v s' h1 => ⟨fun c t e => ?_, h1.2⟩) fun _ _ e => e
    obtain ⟨t', ht⟩ := h1.1
    cases e
    exact ⟨t', ht⟩
  · intro D h' tk ys vs hD hl' hpl hlen hP hF hn hk
    have hD' : s.heap.get? D = none := by
      cases q : s.heap.get? D with
      | none => rfl
      | some o => rw [up _ _ q] at hD; cases hD
    obtain ⟨o, ho, hc, n, hd⟩ := hl'
    rw [List.filter_eq_self.2 (fun _ _ => rfl)] at hF
    have hyl := paired_len hF
    rw [hL] at hn hk
    have hLn : h₀.get? L = none := by
      cases q : h₀.get? L with
      | none => rfl
      | some o => exact absurd (Heap.lt_size q) (Nat.not_lt.mpr C.F.above)
    have kp : ∀ b o, b ≠ L → s.heap.get? b = some o → h'.get? b = some o := fun b o hb e => hk b o hb (fun hm => absurd (List.mem_singleton.mp hm) (Nat.ne_of_lt (Heap.lt_size e))) (up _ _ e)
    refine hQ D h' tk ys o n hc hd (by rw [← Array.length_toList, hyl, hlen]) (fun i v e => ?_) (fun q hq e => ?_) ⟨C.B, ⟨hn, fun b o e => kp b o (fun q => ?_) (C.F.keep b o e), C.F.above⟩, C.X, fun q hq => ?_, C.T, C.XB, C.TB⟩
    · obtain ⟨v', h1, h2⟩ := paired_at hF i v (by simpa using e)
      obtain ⟨t, rfl⟩ := hxs i v' (hP i v' h1)
      exact h2 _ _ rfl
    · have := (C.N q hq).1
      rw [e, hD'] at this; cases this
    · rw [q, hLn] at e; cases e
    · rcases List.mem_cons.mp hq with rfl | hq
      · refine ⟨ho, fun e => ?_, ?_⟩
        · obtain ⟨o', es, ep, ho', _⟩ := C.F.ns
          rw [← e, hD'] at ho'; cases ho'
        · cases q : h₀.get? D with
          | none => rfl
          | some o => rw [C.F.keep _ _ q] at hD'; cases hD'
      · exact ⟨kp _ _ (C.N q hq).2.1 (C.N q hq).1, (C.N q hq).2⟩
end

section
variable {w : World} {A : Around} {P : Params} {h : Heap} {g : Array GenState} {d : Drawn} {t : Nat} {os : OsState} {R : Result → Shared → Prop}
noncomputable abbrev PR : Program := PySem.Challenge.pw_ij0047_01
theorem lr_mro (X : (KM P).In h) {M : Model} : Looks M h (mroOf (.ref 409)) [.ref 409, .type "tuple", .type "object"] :=
  (looks_clsIn X (C := 409) (by rfl)).andThen .now
theorem lr_made (X : (KM P).In h) {M : Model} : Looks M h (Bind.madeBy (.ref 409)) none := by
  intro A Q E s k q
  unfold Bind.madeBy
  refine wpAny_bind (lr_mro X A _ E s k ?_)
  rw [List.forIn_cons]
  refine wpAny_bind (wpAny_bind (wpAny_bind (wpAny_bind (wpAny_loadPart (k _ _ (X 409 _ rfl)) (wpAny_pure ?_)))))
  exact wpAny_pure (wpAny_pure (wpAny_pure q))
theorem tup_made {M : Model} : Looks M h (Bind.madeBy (.type "tuple")) (some "tuple.__new__") := by
  refine Looks.of_pure ?_
  kernel_rfl
theorem lr_best {M : Model} : Looks M h (Builtin.Slots.bestBase [.type "tuple"]) (.type "tuple") := by
  refine Looks.of_pure ?_
  kernel_rfl
theorem lr_base (X : (KM P).In h) {M : Model} : Looks M h (Bind.staticBase (.ref 409)) (.type "tuple") := by
  intro A Q E s k q
  unfold Bind.staticBase
  refine wpAny_bind (lr_mro X A _ E s k ?_)
  rw [List.forIn_cons]
  refine wpAny_bind (wpAny_bind (wpAny_bind (lr_made X A _ E s k ?_)))
  simp only [Option.isSome_none, Bool.false_eq_true, if_false]
  refine wpAny_bind ((looks_clsIn X (C := 409) (by rfl)) A _ E s k ?_)
  refine wpAny_bind (lr_best A _ E s k ?_)
  refine wpAny_pure ?_
  show wpAny _ _ (forIn _ _ _) _ _ _
  rw [List.forIn_cons]
  refine wpAny_bind (wpAny_bind (tup_made A _ E s k ?_))
  simp only [Option.isSome_some, if_true]
  exact wpAny_pure (wpAny_pure (wpAny_pure q))
/-- tuple.__new__ for the class -/
theorem entry_tnew : entryFor table "tuple.__new__" = some Builtin.«tuple.__new__» := by first | exact entryFor_of_fast (by kernel_rfl) | exact entryFor_of_tree (by kernel_rfl)
theorem plain_tnew : plainId "tuple.__new__" = true := by decide +kernel
theorem kind_tnew : builtinKind "tuple.__new__" = some .builtinFn := by decide +kernel
theorem split_tnew : splitId "tuple.__new__" = some ("tuple", "__new__") := by decide +kernel
theorem lr_init (X : (KM P).In h) {M : Model} : Looks M h (typeLookup (.ref 409) "__init__") (some (.builtin "object.__init__")) := looks_findIn X (by rfl)
theorem lr_istype (X : (KM P).In h) {M : Model} : Looks M h (isInstance (.ref 409) (.type "type")) true := looks_instIn X (by rfl)
theorem lr_sub (X : (KM P).In h) {M : Model} : Looks M h (isSubtype (.ref 409) (.type "tuple")) true := looks_subIn X (by rfl)
theorem lr_self (X : (KM P).In h) {M : Model} : Looks M h (isSubtype (.ref 409) (.ref 409)) true := looks_subIn X (by rfl)
theorem lr_call (X : (KM P).In h) {M : Model} : Looks M h (specialOf (.ref 409) "__call__") (some (.builtin "type.__call__")) := looks_specialIn X (by rfl)
noncomputable abbrev lrObj (dx : Addr) (vs : Array Value) : Obj := { cls := .ref 409, dict := some dx, data := .seq vs }
set_option maxRecDepth 100000 in
theorem lr_tnew {T : Addr} {vs : Array Value} (X : (KM P).In h) (hT : h.get? T = some (tupObj vs)) (hsz : vs.size ≤ sizeLine)
    (hq : ∀ h' : Heap, (∀ b o, h.get? b = some o → h'.get? b = some o) → R (.ok (.ret (.ref (h'.objs.size + 1)))) ⟨(h'.push emptyDict).push (lrObj h'.objs.size vs), g, d, t, os⟩) :
    codeAny (model PR w) A (.call (.builtin "tuple.__new__") ⟨[.ref 409, .ref T], []⟩) R ⟨h, g, d, t, os⟩ := by
  refine codeAny_call_builtin_code (plainId_quiet plain_tnew _) ?_
  simp only [checkBuiltinCall, kind_tnew, split_tnew]
  obtain ⟨cd, sl, hC, hdel⟩ : ∃ cd sl, h.get? 409 = some ⟨.type "type", none, .cls cd, sl⟩ ∧ cd.hasDel = false := ⟨_, _, X 409 _ rfl, rfl⟩
  have x1 := lr_istype X (M := model PR w)
  have x2 := lr_sub X (M := model PR w)
  have x3 := lr_base X (M := model PR w)
  have x4 := tup_made (h := h) (M := model PR w)
  have x5 := lr_init X (M := model PR w)
  repeat (first | lk | simp only [bne_self_eq_false, Bool.not_true, Bool.false_eq_true, if_false])
  refine codeAny_builtin entry_tnew ?_
  rw [Around.under_plainId plain_tnew _]
  unfold Builtin.«tuple.__new__»
  have x6 : Looks (model PR w) h (Bind.madeHere "tuple.__new__" (.ref 409)) () := x3.andThen (x4.andThen (Looks.of_pure (by kernel_rfl)))
  have x7 : Looks (model PR w) h (checkCount "tuple" 0 1 [Value.ref T].length) () := Looks.of_pure (by kernel_rfl)
  have x8 : Looks (model PR w) h (noKeywords "tuple" ⟨[.ref 409, .ref T], []⟩) () := Looks.of_pure (by kernel_rfl)
  repeat ((fail_if_success (with_reducible show wpAny _ _ (collect _) _ _ _)); (first | lk | simp only [Bool.not_true, Bool.false_eq_true, if_false, beq_self_eq_true, if_true]))
  refine wpAny_collect_seq T (.inr rfl) hT rfl rfl (fun h' hk => ?_) hsz
  refine wpAny_bind (wpAny_pure ?_)
  refine wpAny_bind (wpAny_alloc ?_)
  dsimp only
  rw [Array.toArray_toList]
  refine wpAny_bind ?_
  unfold newObj
  have hns : ¬ (vs.size > sizeLine) := by omega
  dsimp only
  rw [if_neg hns]
  unfold newObjAsIs classHasDel
  refine wpAny_bind (wpAny_alloc (wpAny_bind (wpAny_bind (wpAny_load (Heap.get?_push_of_some _ (Heap.get?_push_of_some _ (hk _ _ hC))) (wpAny_pure ?_)))))
  dsimp only
  rw [hdel]
  refine wpAny_pure (wpAny_pure ?_)
  have e := hq h' hk
  rw [Heap.size_push]
  exact e
noncomputable def NewBack (P : Params) (R : Result → Shared → Prop) (r : Result) (s' : Shared) : Prop := match r with
  | .ok (.ret v) => ∃ x dx vs, v = .ref x ∧ s'.heap.get? x = some (lrObj dx vs) ∧ (KM P).In s'.heap ∧ R (.ok (.ret v)) s'
  | .ok _ => False
  | .error e => R (.error e) s'
theorem lr1 : typeIn (KM P) (.ref 409) = some (.type "type") := by rfl
theorem lr2 : readsIn (KM P) 409 (.type "type") = true := by rfl
theorem lr3 : findCls (KM P) (.ref 409) (.type "type") (Str.ofString "__new__") = some (.get (.builtin "staticmethod.__get__") (.ref 410) .none (.ref 409)) := by rfl
theorem lr4 : recIn (KM P) 410 "staticmethod" = some (.ref 359 :: []) := by rfl
theorem lr5 : handedIn (.ref 359) = true := by rfl
theorem lr_objinit {a b : Str} {u v : Value} (x : Value) : argsOk "object.__init__" ⟨[x], [(a, u), (b, v)]⟩ := by unfold argsOk; kernel_rfl
set_option maxRecDepth 100000 in
set_option maxHeartbeats 2000000 in
theorem lr_make {h₀ : Heap} {L : Addr} {m : Str → Option Value} {a b : Str} {u v : Value} (F : Fr h₀ L h m) (X₀ : (KM P).In h₀)
    (hq : codeAny (model PR w) (A.under (.builtin "type.__call__" ⟨[.ref 409], [(a, u), (b, v)]⟩)) (.call (.ref 359) ⟨[.ref 409], [(a, u), (b, v)]⟩) (NewBack P R) ⟨h, g, d, t + 1, os⟩) :
    codeAny (model PR w) A (.call (.ref 409) ⟨[], [(a, u), (b, v)]⟩) R ⟨h, g, d, t, os⟩ := by
  have X := X₀.keeps F.keep
  obtain ⟨cd, sl, hC, hab, hmr⟩ : ∃ cd sl, h.get? 409 = some ⟨.type "type", none, .cls cd, sl⟩ ∧ cd.abstract = false ∧ cd.mro.isEmpty = false := ⟨_, _, X 409 _ rfl, rfl, rfl⟩
  have x1 := lr_istype X (M := model PR w)
  have x2 := lr_mro X (M := model PR w)
  have x3 := lr_made X (M := model PR w)
  have x4 := lr_call X (M := model PR w)
  refine codeAny_of_tree ?_
  show wpAny _ _ (callAny (.ref 409) _) _ _ _
  refine nd_load hC ?_
  show wpAny _ _ (callAny.viaDunder (.ref 409) _) _ _ _
  unfold callAny.viaDunder
  refine wpAny_bind (x4.at ?_)
  dsimp only
  rw [tc_bind]
  refine wpAny_bind (wpAny_pure (wpAny_bind (wpAny_pure ?_)))
  refine wpAny_pure (a := Fin.again (.call (.builtin "type.__call__") ⟨[.ref 409], [(a, u), (b, v)]⟩)) (And.intro rfl ?_)
  have ck : ∀ (A' : Around) (Q' : Unit → Shared → Prop) (E' : Value → Shared → Prop), Q' () ⟨h, g, d, t, os⟩ → wpAny (model PR w) A' (checkBuiltinCall "type.__call__" ⟨[.ref 409], [(a, u), (b, v)]⟩) Q' E' ⟨h, g, d, t, os⟩ := fun A' Q' E' q => check_slot (i := "type.__call__") (owner := "type") (n := "__call__") (self := .ref 409) (rest := []) (kw := [(a, u), (b, v)]) tc_kind tc_split x1 (tc_args (.ref 409) [] [(a, u), (b, v)]) q
  have qt : (Code.builtin "type.__call__" ⟨[.ref 409], [(a, u), (b, v)]⟩).quiet = true := Code.quiet_builtin _ (by decide +kernel)
  refine codeAny_call_builtin_at qt entry_typeCall (ck _ _ _ ?_)
  unfold Builtin.«type.__call__»
  repeat ((fail_if_success (with_reducible show wpAny _ _ (getAttr _ _ _) _ _ _)); (first | lk | simp only [List.isEmpty_cons, Bool.false_eq_true, if_false]))
  refine cls_sm (C := 409) (s := ⟨h, g, d, t, os⟩) F X₀ (mc := .type "type") lr1 lr2 (p := 410) (f := .ref 359) (rest := []) lr3 lr4 lr5 ?_
  refine wpAny_bind (wpAny_holding (wpAny_call (codeAny_mono hq fun r s' z => ?_)))
  rcases r with e | (v' | _ | _ | _) <;> first | exact z | exact z.elim | skip
  obtain ⟨x, dx, vs, rfl, hx, X', z⟩ := z
  obtain ⟨h', g', d', t', os'⟩ := s'
  dsimp only at hx X' z ⊢
  have y1 := lr_self X' (M := model PR w)
  have y2 : Looks (model PR w) h' (typeOf (.ref x)) (.ref 409) := (Looks.ld hx).andThen .now
  have y3 := lr_init X' (M := model PR w)
  have y4 := lr_made X' (M := model PR w)
  unfold isInstance callSpecial? specialOf
  repeat ((fail_if_success (with_reducible show wpAny _ _ (call _ _ _) _ _ _)); (first | lk | simp only [Bool.not_true, List.isEmpty_cons, Bool.false_eq_true, if_false]))
  have y5 : Looks (model PR w) h' (isSubtype (.ref 409) (.type "object")) true := looks_subIn X' (by rfl)
  have y6 : Looks (model PR w) h' (isInstance (.ref x) (.type "object")) true := y2.andThen y5
  refine wpAny_call ?_
  show codeAny _ _ (.call (.builtin "object.__init__") ⟨[.ref x], [(a, u), (b, v)]⟩) _ _
  have ck : ∀ (A' : Around) (Q' : Unit → Shared → Prop) (E' : Value → Shared → Prop), Q' () ⟨h', g', d', t', os'⟩ → wpAny (model PR w) A' (checkBuiltinCall "object.__init__" ⟨[.ref x], [(a, u), (b, v)]⟩) Q' E' ⟨h', g', d', t', os'⟩ := fun A' Q' E' q => check_slot (i := "object.__init__") (owner := "object") (n := "__init__") (self := .ref x) (rest := []) (kw := [(a, u), (b, v)]) oi_kind oi_split y6 (@lr_objinit a b u v (.ref x)) q
  have qt : (Code.builtin "object.__init__" ⟨[.ref x], [(a, u), (b, v)]⟩).quiet = true := Code.quiet_builtin _ (by decide +kernel)
  refine codeAny_call_builtin_at qt entry_oi (ck _ _ _ ?_)
  unfold Builtin.«object.__init__»
  repeat (first | lk | simp only [Bool.not_true, List.isEmpty_cons, Bool.false_eq_true, if_false])
  exact z
end

section
variable {w : World} {p : Program} {loose : List Str} {mean : ExcName → Option Value} {mg mb : Str → Option Value} {dp un : Nat} {gd : Option (List Code)} {cn : Str} {cs : Scope} {a : Addr} {ccd : Value} {cl : List (Str × Addr)} {outer : List Env} {A₀ : Around} {base h₀ : Heap} {L : Addr} {m : Str → Option Value} {news rest : List (Addr × Obj)} {s : Shared} {Q E : Value → Shared → Prop}
noncomputable abbrev newFd : FuncData := fnOf (Str.ofString "__new__") (Str.ofString "LinearRegression.__new__") (parOf (inSt 21 4)) (bodyOf (inSt 21 4)) (scOf (inSt 21 4)) .none .none (.str (Str.ofString "Create new instance of LinearRegression(slope, intercept)") 877) (.str (Str.ofString "cpy313.statistics") 785) none (.ref 358) .none
set_option maxRecDepth 100000 in
set_option maxHeartbeats 4000000 in
theorem new_binds {s : Shared} (x y z : Value) : BindsTo s newFd ⟨[x], [(Str.ofString "slope", y), (Str.ofString "intercept", z)]⟩ [(Str.ofString "_cls", x), (Str.ofString "slope", y), (Str.ofString "intercept", z)] := BindsTo.of_eq (by kernel_rfl)
theorem tnew_find (P : Params) : findCls (KM P) (.type "tuple") (.type "type") (Str.ofString "__new__") = some (.val (.builtin "tuple.__new__")) := by kernel_rfl
theorem stub_tuple : Manifest.isStub "tuple" = false := by decide +kernel
theorem hand_tnew : handedIn (.builtin "tuple.__new__") = true := by decide +kernel
theorem ty_tuple : typeOf (.type "tuple") = pure (.type "type") := by first | rfl | kernel_rfl
set_option maxRecDepth 100000 in
set_option maxHeartbeats 4000000 in
theorem lr_new {u v : Value} (C : Cx w p loose mean mg mb A₀ base outer h₀ L m s.heap news) (hk : cs.kind = .function) (hd : dp + 8 < recursionLimit) (hu : un + 40 < cLine)
  (hret : ∀ (g h' : Heap) (tk' x dx : Nat), KtsTurn (outer.filterMap (·.frame)) h₀ g → (∀ q ∈ news, q.1 ≠ x) → Cx w p loose mean mg mb A₀ base outer g L m h' ((x, lrObj dx #[u, v]) :: news) → Q (.ref x) { s with heap := h', toks := tk' }) :
  wpAny (model PySem.Challenge.pw_ij0047_01 w) (ktrTop dp un gd cn cs L a ccd cl outer) (call (.ref 409) [] [(Str.ofString "slope", u), (Str.ofString "intercept", v)]) Q E s := by
  refine wpAny_call ?_
  refine lr_make (h := s.heap) (g := s.gens) (d := s.drawn) (t := s.toks) (os := s.os) C.F C.X ?_
  refine callT_plain (s := ⟨s.heap, s.gens, s.drawn, s.toks + 1, s.os⟩) (A := (ktrTop dp un gd cn cs L a ccd cl outer).under (.builtin "type.__call__" ⟨[.ref 409], [(Str.ofString "slope", u), (Str.ofString "intercept", v)]⟩)) C.B C.F C.N C.T.nolimit rfl rfl hk (C.F.keep _ _ (C.X 359 _ rfl)) rfl (codeRec_of (C.X.keeps C.F.keep) rfl) (by ktr_room) (new_binds _ _ _) (locs rfl) (fun g L' h₁ FG F' N' B' st lt => ?_) (by decide)
  have XB := C.XB
  have TB := C.TB
  have T := C.T.keeps st
  have X := C.X.keeps st
  k_lt lt
  clear C
  k_steps
  rename Fr _ _ _ _ => F1
  rename News _ _ _ _ => N1
  have tf := tnew_find w.params
  with_reducible refine method_type F1 X ty_tuple stub_tuple tf hand_tnew ?_
  k_steps
  rename Fr _ _ _ _ => F2
  rename News _ _ _ _ => N2
  have C3 : Cx w p loose mean mg mb _ base _ g L' _ _ _ := ⟨B', F2, X, N2, T, XB, TB⟩
  refine wpAny_call ?_
  refine lr_tnew (C3.X.keeps C3.F.keep) (C3.N _ (.head _)).1 (by show 2 ≤ sizeLine; rw [sizeLine_eq]; omega) fun h4 hk4 => ?_
  have C4 := ((C3.keepsH hk4).push emptyDict).push (lrObj h4.objs.size #[u, v])
  rw [Heap.size_push] at C4
  refine leaveT_ KtsTurn.refl C4.F C4.N fun h₀' kt f n b => ?_
  refine ⟨_, _, _, rfl, (n _ (.head _)).1, (XB.keeps b.stays).keeps f.keep, ?_⟩
  have CC : Cx w p loose mean mg mb A₀ base outer h₀' L m _ _ := ⟨b, f, XB.keeps b.stays, n, TB.keeps b.stays, XB, TB⟩
  refine hret _ _ _ _ h4.objs.size kt (fun q hq => ?_) (CC.sub fun q hq => ?_)
  · exact Nat.ne_of_lt (Nat.lt_succ_of_lt (Heap.lt_size ((C3.keepsH hk4).N _ (.tail _ hq)).1))
  · rcases List.mem_cons.mp hq with rfl | hq
    · exact .head _
    · exact .tail _ (.tail _ (.tail _ hq))
end

section
variable {w : World} {p : Program} {loose : List Str} {mean : ExcName → Option Value} {mg mb : Str → Option Value} {dp un : Nat} {gd : Option (List Code)} {cn : Str} {cs : Scope} {a : Addr} {ccd : Value} {cl : List (Str × Addr)} {outer : List Env} {A₀ : Around} {base h₀ : Heap} {L : Addr} {m : Str → Option Value} {news rest : List (Addr × Obj)} {s : Shared} {Q E : Value → Shared → Prop}
theorem pin {h h' : Heap} {b : Addr} {x : Obj} (e₁ : h.get? b = some x) (e₂ : h'.get? b = some x) : ∀ o, h.get? b = some o → h'.get? b = some o := fun o e => by rw [e₁] at e; cases e; exact e₂
theorem code417 {P : Params} {h₀ h : Heap} {ps : Array Value} (X : (KM P).In h₀) (k : ∀ b o, h₀.get? b = some o → h.get? b = some o) (tr : TriplesOk ps.toList) (e : h.get? 415 = some (tabObj ps)) : h.IsCode 417 415 ps ∧ h.TableAt 417 415 ps :=
  ⟨⟨_, _, _, _, _, _, _, _, _, _, k _ _ (X 417 _ rfl), rfl, rfl, rfl, rfl, rfl, rfl, e, rfl, tr, by decide⟩, ⟨_, _, k _ _ (X 417 _ rfl), rfl, rfl, rfl⟩, e⟩
local macro_rules | `(tactic| omega) => `(tactic| (show False; with_reducible contradiction))
set_option maxRecDepth 100000 in
set_option maxHeartbeats 2000000 in
theorem lin_call {l1 l2 n : Nat} {ol1 ol2 : Obj} {xs ys : Array Value} {fx fy : Nat → UInt64} {p₁ p₂ : Nat → Nat} (hn : 2 ≤ n) (hn1 : n < 64) (hxs : xs.size = n) (hys : ys.size = n)
  (C : Cx w p loose mean mg mb A₀ base outer h₀ L m s.heap ((415, tabObj #[]) :: news)) (hD : Docs base) (hk : cs.kind = .function) (hd : dp + 80 < recursionLimit) (hu : un + 300 < cLine)
  (r : ∀ q ∈ news, q.1 ≠ 415) (m1 : (l1, ol1) ∈ news) (hol1 : ol1.cls = .type "list") (hod1 : ∃ ep, ol1.data = .seq xs ep)
  (m2 : (l2, ol2) ∈ news) (hol2 : ol2.cls = .type "list") (hod2 : ∃ ep, ol2.data = .seq ys ep)
  (hx : ∀ (i : Nat) (v : Value), xs[i]? = some v → ∃ t, v = .float (fx i) t) (hy : ∀ (i : Nat) (v : Value), ys[i]? = some v → ∃ t, v = .float (fy i) t)
  (hux : ∀ i, i < n → Ex (fx i) (256 * ((p₁ i : Int) + 1))) (huy : ∀ i, i < n → Ex (fy i) (256 * ((p₂ i : Int) + 1))) (P1 : Bij n p₁) (P2 : Bij n p₂) (hgb : AllBare s.gens)
  (hret : ∀ (g h' : Heap) (gs : Array GenState) (tk' x dx : Nat) (ps' : Array Value) (f f2 : UInt64) (t1 t2 : Tok), KtsTurn (outer.filterMap (·.frame)) h₀ g → AllBare gs → Rd f (64 * DD n p₁ p₂) (64 * DD n p₁ p₁).natAbs →
    Cx w p loose mean mg mb A₀ base outer g L m h' ((x, lrObj dx #[.float f t1, .float f2 t2]) :: (415, tabObj ps') :: news) → Q (.ref x) { s with heap := h', gens := gs, toks := tk' }) :
  wpAny (model PySem.Challenge.pw_ij0047_01 w) (ktrTop dp un gd cn cs L a ccd cl outer) (call (.ref 418) [.ref l1, .ref l2]) Q E s := by
  have a2 := Ar.lt2 hn
  have a3 := Ar.i0 hn
  have a4 := Ar.big hn1
  refine wpAny_call (lin_enter C hD hk (by omega) ?_)
  intro t g L' h₁ tk0 o1 o2 d1 d2 FG C' lt
  have XB := C'.XB
  have TB := C'.TB
  have B := C'.B
  have T := C'.T
  have X := C'.X
  have N := C'.N
  have F := C'.F
  clear C' C
  have lt0 : @LT.lt Nat _ 415 L' := lt _ (.head _)
  have ltn : ∀ q ∈ news, @LT.lt Nat _ q.1 L' := fun q hq => lt q (.tail _ hq)
  have nl : ∀ j : Nat, ∀ q ∈ news, q.1 ≠ L' + j := fun j q hq => Nat.ne_of_lt (Nat.lt_of_lt_of_le (ltn q hq) (Nat.le_add_right _ _))
  k_lt lt
  have sz1 : (xs.size : Int) = (n : Int) := Ar.cast hxs
  have sz2 : (ys.size : Int) = (n : Int) := Ar.cast hys
  k_steps
  rename News _ _ _ _ => N1
  refine ⟨kun_lenL ⟨ol1, (N1 _ (.tail _ (.tail _ (.tail _ m1)))).1, hol1, hod1⟩ sz1 (Ar.le16 hn1) ?_⟩
  k_steps
  rename News _ _ _ _ => N2
  refine ⟨kun_lenL ⟨ol2, (N2 _ (.tail _ (.tail _ (.tail _ m2)))).1, hol2, hod2⟩ sz2 (Ar.le16 hn1) ?_⟩
  k_steps
  rename News _ _ _ _ => N3
  rename Fr _ _ _ _ => F3
  have C3 : Cx w p loose mean mg mb _ base _ g L' _ _ _ := ⟨B, F3, X, N3, T, XB, TB⟩
  have nn : Ex (Float64.ofInt (n : Int)) ((n : Int) * 256) := Ex.ofInt (Ar.b53 hn1)
  have zn : Float64.isZero (Float64.ofInt (n : Int)) = false := nn.nonzero (Ar.nz hn)
  have WX : Walkable _ l1 xs := .inl ⟨ol1, (N3 _ (.tail _ (.tail _ (.tail _ m1)))).1, hol1, hod1⟩
  refine fsum_cx C3 rfl WX (Ar.pos hxs hn) (Ar.lt4 hxs hn1) hx (u := fun i => 256 * ((p₁ i : Int) + 1)) (by rw [hxs]; exact hux) (fun i _ => Ar.up0 _) (fun i hi => Ar.up30 (P1.lt i (hxs ▸ hi)) hn1) ?_
  intro h4 tkf tk4 sx Esx htk4 C4
  have F4 := C4.F
  have N4 := C4.N
  clear C4 C3 N3 F3 WX
  k_steps
  rename News _ _ _ _ => N5
  rename Fr _ _ _ _ => F5
  have C5 : Cx w p loose mean mg mb _ base _ g L' _ _ _ := ⟨B, F5, X, N5, T, XB, TB⟩
  refine store_cell (c := L' + 1) (o := o2) (rest := (L' + 1 + 1, o1) :: (415, tabObj #[]) :: news) (C5.sub (by tb_start)) ?_ rfl rfl rfl d2 ?_
  · exact List.forall_mem_cons.2 ⟨neN (by omega), List.forall_mem_cons.2 ⟨neN (by omega), nl 1⟩⟩
  intro h6 o2' d2' C6
  have F6 := C6.F
  have N6 := C6.N
  clear C6 C5 N5 F5
  k_steps
  rename News _ _ _ _ => N7
  rename Fr _ _ _ _ => F7
  have C7 : Cx w p loose mean mg mb _ base _ g L' _ _ _ := ⟨B, F7, X, N7, T, XB, TB⟩
  have WY : Walkable _ l2 ys := .inl ⟨ol2, (N7 _ (.tail _ (.tail _ (.tail _ m2)))).1, hol2, hod2⟩
  refine fsum_cx C7 rfl WY (Ar.pos hys hn) (Ar.lt4 hys hn1) hy (u := fun i => 256 * ((p₂ i : Int) + 1)) (by rw [hys]; exact huy) (fun i _ => Ar.up0 _) (fun i hi => Ar.up30 (P2.lt i (hys ▸ hi)) hn1) ?_
  intro h8 tkf8 tk8 sy Esy htk8 C8
  have F8 := C8.F
  have N8 := C8.N
  clear C8 C7 N7 F7 WY
  k_steps
  rename News _ _ _ _ => N9
  rename Fr _ _ _ _ => F9
  have C9 : Cx w p loose mean mg mb _ base _ g L' _ _ _ := ⟨B, F9, X, N9, T, XB, TB⟩
  refine store_cell (c := L' + 1 + 1) (o := o1) (rest := (L' + 1, o2') :: (415, tabObj #[]) :: news) (C9.sub (by tb_start)) ?_ rfl rfl rfl d1 ?_
  · exact List.forall_mem_cons.2 ⟨neN (by omega), List.forall_mem_cons.2 ⟨neN (by omega), nl 2⟩⟩
  intro h10 o1' d1' C10
  have F10 := C10.F
  have N10 := C10.N
  clear C9 N9 F9
  k_steps
  have hl10 : Heap.IsList h10 l1 xs := ⟨ol1, (N10 _ (.tail _ (.tail _ (.tail _ m1)))).1, hol1, hod1⟩
  refine ⟨comp_sub (l := l1) (k := L' + 1) (xs := xs) (fx := fx) C10 rfl rfl (by with_unfolding_all rfl) (by decide) (by decide) (by decide) rfl (by intro _; with_unfolding_all rfl) (fun _ => by with_unfolding_all rfl) (by decide) (by decide) (by with_unfolding_all rfl) rfl rfl
    (fun Q' hq => wpAny_Name (wpAny_loadName_local rfl rfl F10.ns rfl hq)) hl10 (by rw [hxs, sizeLine_eq]; omega) ⟨o2', (N10 _ (.tail _ (.head _))).1, d2'⟩ hx ?_⟩
  intro D h11 tk11 zs oD nD oc0 od0 hzs hz nD' C11
  have hzn : zs.size = n := hzs.trans hxs
  clear C10 N10 F10
  have F11 := C11.F
  have N11 := C11.N
  k_steps
  have lL : @LT.lt Nat _ L' h11.objs.size := F11.ns.lt
  have r415 : ∀ q ∈ (D, oD) :: (L' + 1 + 1, o1') :: (L' + 1, o2') :: news, q.1 ≠ 415 := List.forall_mem_cons.2 ⟨fun e => nD' (415, tabObj #[]) (.tail _ (.tail _ (.head _))) e.symm, List.forall_mem_cons.2 ⟨neN (by omega), List.forall_mem_cons.2 ⟨neN (by omega), r⟩⟩⟩
  refine ⟨gen_cx (rest := (D, oD) :: (L' + 1 + 1, o1') :: (L' + 1, o2') :: news) (l := l2) (k := L' + 1 + 1) (c := 417) (P := 415) (ps := #[]) (xs := ys) (fx := fy) (C11.sub (by tb_start)) r415 rfl (by ktr_room) rfl (by with_unfolding_all rfl) (by decide) (by decide) (by decide) (by decide) rfl (by intro _; with_unfolding_all rfl) (by decide) (by decide) (by decide) rfl rfl (fun e => code417 X F11.keep trivial e) rfl
    (fun Q' hq => wpAny_Name (wpAny_loadName_local rfl rfl F11.ns rfl hq)) ⟨ol2, (N11 _ (.tail _ (.tail _ (.tail _ (.tail _ m2))))).1, hol2, hod2⟩ ⟨o1', (N11 _ (.tail _ (.head _))).1, d1'⟩ (r _ m2) (neN (by omega)) hy ?_⟩
  intro a1 I1 Ca1 cc1 h12 tk12 gs1 gb1 q1 q2 q3 q4 ⟨oC, eC⟩ ⟨oI, eI⟩ q5 C12 G1
  obtain ⟨oa, x1, x2, ea, x3⟩ := G1.1
  dsimp only at q1
  have C13 := ((C12.more eI (by omega)).more eC (by omega)).more ea (by omega)
  have F13 := C13.F
  have N13 := C13.N
  have hm2 : (l2, ol2) ∈ (a1, oa) :: (Ca1, oC) :: (I1, oI) :: (415, tabObj (#[] ++ #[rawInt 407, rawInt 12, .ref cc1])) :: (D, oD) :: (L' + 1 + 1, o1') :: (L' + 1, o2') :: news := .tail _ (.tail _ (.tail _ (.tail _ (.tail _ (.tail _ (.tail _ m2))))))
  have e2 : h12.get? l2 = some ol2 := (N13 _ hm2).1
  have ek : h12.get? (L' + 1 + 1) = some o1' := (N13 _ (.tail _ (.tail _ (.tail _ (.tail _ (.tail _ (.head _))))))).1
  obtain ⟨mc, ⟨oc, _, _, hoc, _⟩, _⟩ := T.nolimit
  have ec : h12.get? cStatics = some oc := F13.keep _ _ hoc
  have z1 : l2 < h11.objs.size := Heap.lt_size (N11 _ (.tail _ (.tail _ (.tail _ (.tail _ m2))))).1
  have z2 : @LT.lt Nat _ (L' + 1 + 1) h11.objs.size := Heap.lt_size (N11 _ (.tail _ (.head _))).1
  have z3 : @LT.lt Nat _ (L' + 1) h11.objs.size := Heap.lt_size (N11 _ (.tail _ (.tail _ (.head _)))).1
  have z4 : D < h11.objs.size := Heap.lt_size (N11 _ (.head _)).1
  have z5 : @LT.lt Nat _ 415 h11.objs.size := Heap.lt_size (N11 _ (.tail _ (.tail _ (.tail _ (.head _))))).1
  have zc := C11.statics lL
  clear C11 C12 C13
  k_steps
  rename News _ _ _ _ => N14
  rename Fr _ _ _ _ => F14
  have C14 : Cx w p loose mean mg mb _ base _ g L' _ _ _ := ⟨B, F14, X, N14, T, XB, TB⟩
  have xb : Ex (Float64.div sx (Float64.ofInt (n : Int))) (128 * ((n : Int) + 1)) := by
    have e := sum_places P1
    rw [hxs] at Esx
    refine Esx.div nn (Ar.p256 hn) ?_ (Ar.b128 hn1)
    rw [e]; exact Ar.sq n
  have yb : Ex (Float64.div sy (Float64.ofInt (n : Int))) (128 * ((n : Int) + 1)) := by
    have e := sum_places P2
    rw [hys] at Esy
    refine Esy.div nn (Ar.p256 hn) ?_ (Ar.b128 hn1)
    rw [e]; exact Ar.sq n
  have cx : ∀ i, i < n → Ex (Float64.sub (fx i) (Float64.div sx (Float64.ofInt (n : Int)))) (128 * cen n (p₁ i)) := fun i hi => by
    have a := P1.lt i hi
    have e := (hux i hi).sub xb (Ar.d53 a hn1)
    have e2 : 256 * ((p₁ i : Int) + 1) - 128 * ((n : Int) + 1) = 128 * cen n (p₁ i) := Ar.cenE _ _
    rwa [e2] at e
  have cy : ∀ i, i < n → Ex (Float64.sub (fy i) (Float64.div sy (Float64.ofInt (n : Int)))) (128 * cen n (p₂ i)) := fun i hi => by
    have a := P2.lt i hi
    have e := (huy i hi).sub yb (Ar.d53 a hn1)
    have e2 : 256 * ((p₂ i : Int) + 1) - 128 * ((n : Int) + 1) = 128 * cen n (p₂ i) := Ar.cenE _ _
    rwa [e2] at e
  have nxy := sum_ranks P1.lt P2.lt hn1 cx cy
  have nxx := sum_ranks P1.lt P1.lt hn1 cx cx
  have b13 : h12.get? Ca1 = some oC := eC
  have b14 := (N14 _ (.head _)).1
  rw [hys] at G1
  refine sumprod_lg2 (fx := fun i => Float64.sub (fx i) (Float64.div sx (Float64.ofInt (n : Int)))) (ys := zs) (N := h11.objs.size) (n := n) rfl (by ktr_room) ⟨oD, (N14 _ (.tail _ (.tail _ (.tail _ (.tail _ (.head _)))))).1, oc0, _, od0⟩ (by omega) (by omega) z1 z2 zc q1 q2 q3 (Heap.lt_size (N14 _ (.head _)).1) (by omega) (by omega) (GenAt.move G1 (fun b hb => ?mv) (.tail _ (.tail _ (.tail _ (.head _)))) rfl) (hgb.push gb1) hz (fun k hk => nxy.2 _ (by omega)) ?_
  case mv =>
    simp only [List.mem_cons, List.not_mem_nil, or_false] at hb
    rcases hb with rfl | rfl | rfl | rfl | rfl | rfl
    · exact pin ea (N14 _ (.head _)).1
    · exact pin eC (N14 _ (.tail _ (.head _))).1
    · exact pin eI (N14 _ (.tail _ (.tail _ (.head _)))).1
    · exact pin e2 (N14 _ hm2).1
    · exact pin ek (N14 _ (.tail _ (.tail _ (.tail _ (.tail _ (.tail _ (.head _))))))).1
    · exact pin ec (F14.keep _ _ hoc)
  intro s' tks hk hgs hd ho
  obtain ⟨h15, gs15, dr15, tk15, os15⟩ := s'
  dsimp only at hk hgs hd ho ⊢
  subst hd ho
  have C15 := (C14.sub (news' := (415, tabObj (#[] ++ #[rawInt 407, rawInt 12, .ref cc1])) :: (D, oD) :: (L' + 1 + 1, o1') :: (L' + 1, o2') :: news) (by tb_start)).keepLow (N := h11.objs.size) lL ?low (fun b o hb e => hk b o (by omega) (by omega) e)
  case low => exact List.forall_mem_cons.2 ⟨z5, List.forall_mem_cons.2 ⟨z4, List.forall_mem_cons.2 ⟨z2, List.forall_mem_cons.2 ⟨z3, fun q hq => Nat.lt_trans (ltn q hq) lL⟩⟩⟩⟩
  have F15 := C15.F
  have N15 := C15.N
  clear C15 C14 G1 N14 F14
  k_steps
  rename News _ _ _ _ => N16
  rename Fr _ _ _ _ => F16
  have C16 : Cx w p loose mean mg mb _ base _ g L' _ _ _ := ⟨B, F16, X, N16, T, XB, TB⟩
  have WD : Walkable _ D zs := .inl ⟨oD, (N16 _ (.tail _ (.head _))).1, oc0, _, od0⟩
  refine sumprod_cx (fx := fun i => Float64.sub (fx i) (Float64.div sx (Float64.ofInt (n : Int)))) (fy := fun i => Float64.sub (fx i) (Float64.div sx (Float64.ofInt (n : Int)))) C16 rfl WD WD rfl (Ar.pos hzn hn) hz hz (fun k hk => nxx.2 _ (Ar.le_of hzn hk)) ?_
  intro h17 tkv tk17 htk17 C17
  rw [hzn]
  have bd := DD_bounds P1 hn hn1
  have f4 : Float64.isZero (Float64.add (Float64.ofInt 0) (Builtin.Math.tlToFloat (tri (fun i => Float64.sub (fx i) (Float64.div sx (Float64.ofInt (n : Int)))) (fun i => Float64.sub (fx i) (Float64.div sx (Float64.ofInt (n : Int)))) n))) = false := nxx.1.nonzero (Ar.d0 bd)
  have F17 := C17.F
  have N17 := C17.N
  clear C17 C16 N16 F16 WD
  k_steps
  rename News _ _ _ _ => N18
  rename Fr _ _ _ _ => F18
  have C18 : Cx w p loose mean mg mb _ base _ g L' _ _ _ := ⟨B, F18, X, N18, T, XB, TB⟩
  show wpAny _ _ (call (Value.ref 409) [] [(Str.ofString "slope", _), (Str.ofString "intercept", _)]) _ _ _
  refine lr_new C18 rfl (by ktr_room) (by ktr_units) ?_
  intro g20 h20 tk20 x20 dx20 KT20 nx20 C20
  have B20 := C20.B
  have F20 := C20.F
  have N20 := C20.N
  have X20 := C20.X
  have T20 := C20.T
  clear C20 C18 N18 F18
  k_steps
  have z0 : Ex (0 : UInt64) 0 := ⟨fin_of (by decide +kernel), by decide +kernel⟩
  have s0 := nxy.1.add z0 (Ar.dz (DD_abs P1 P2 hn1))
  rw [Int.add_zero] at s0
  exact hret _ _ gs15 _ _ _ _ _ _ _ _ (by assumption) hgs (Rd.div s0 nxx.1 (Ar.dp bd) (by have := DD_abs P1 P2 hn1; omega)) (by kwd_rel)
end

namespace BB
open Builtin
set_option maxRecDepth 100000
theorem loop4 {β : Type} {f : Nat → β → Sem (ForInStep β)} {s0 s1 s2 : β} (h0 : f 0 s0 = pure (.yield s1)) (h1 : f 1 s1 = pure (.done s2)) : (forIn [0:4] s0 f : Sem β) = pure s2 := by
  rw [Std.Legacy.Range.forIn_eq_forIn_range', show Std.Legacy.Range.size [0:4] = 4 from rfl, show List.range' 0 4 1 = [0, 1, 2, 3] from rfl, List.forIn_cons, h0, pure_bind]
  show (forIn [1, 2, 3] s1 f : Sem β) = _
  rw [List.forIn_cons, h1, pure_bind]
open Builtin._codecs in
theorem narrow4 {id : String} {self : Value} {a b c d : Nat} (ha : a < 128) (hb : b < 128) (hc : c < 128) (hd : d < 128) :
    encodeNarrow id asciiCodec none self ⟨#[a, b, c, d]⟩ = pure #[a.toUInt8, b.toUInt8, c.toUInt8, d.toUInt8] := by
  have nb0 : (!asciiCodec.bad a) = true := by show (!decide (a ≥ 128)) = true; rw [decide_eq_false (Nat.not_le.2 ha)]; rfl
  have hf' : (#[a, b, c, d] : Array Nat).findIdx? asciiCodec.bad = none := by
    show (#[a, b, c, d] : Array Nat).findIdx? (fun x => decide (x ≥ 128)) = none
    simp [ha, hb, hc, hd]
  have z : ¬ ((#[] : Array UInt8).size > sizeLine) := by rw [sizeLine_eq]; simp
  have z4 : ¬ ((#[a.toUInt8, b.toUInt8, c.toUInt8, d.toUInt8] : Array UInt8).size > sizeLine) := by rw [sizeLine_eq]; simp
  unfold encodeNarrow
  show (forIn [0:4] _ _ >>= _) = _
  refine (congrArg (fun t => t >>= _) (loop4 (s1 := (4, #[a.toUInt8, b.toUInt8, c.toUInt8, d.toUInt8], {})) (s2 := (4, #[a.toUInt8, b.toUInt8, c.toUInt8, d.toUInt8], {})) ?h0 ?h1)).trans ?_
  case h0 =>
    refine (if_neg z).trans ?_
    show (if (!asciiCodec.bad a) = true then _ else _) = _
    refine (if_pos nb0).trans ?_
    show pure (ForInStep.yield (0 + ((#[a, b, c, d] : Array Nat).findIdx? asciiCodec.bad).getD 4, Array.foldl (fun acc y => acc ++ (asciiCodec.bytesOf y).toArray) #[] ((#[a, b, c, d] : Array Nat).extract 0 (((#[a, b, c, d] : Array Nat).findIdx? asciiCodec.bad).getD 4)), _)) = _
    rw [hf']
    exact rfl
  case h1 =>
    refine (if_neg z4).trans ?_
    exact rfl
  rfl
theorem slot_upper : Slot "bytes" "upper" "bytes.upper" :=
  .of (owner := "bytes") (n := "upper") (by rw [typeLookup_type, builtinLookup_eq_fast]; kernel_rfl) (by decide +kernel) (by decide +kernel) (by decide +kernel)
    (by first | exact .inl (by decide +kernel) | exact .inr (by decide +kernel)) (by rw [isSubtype_type]; kernel_rfl)
theorem type_upper : typeOf (.builtin "bytes.upper") = pure (.type "method_descriptor") := by show builtinType _ = _; rw [builtinType_eq_fast]; kernel_rfl
theorem entry_upper : entryFor table "bytes.upper" = some Builtin.«bytes.upper» := entryFor_of_tree (by kernel_rfl)
theorem args_upper (a : Value) : argsOk "bytes.upper" ⟨[a], []⟩ := by unfold argsOk; kernel_rfl
theorem slot_translate : Slot "bytes" "translate" "bytes.translate" :=
  .of (owner := "bytes") (n := "translate") (by rw [typeLookup_type, builtinLookup_eq_fast]; kernel_rfl) (by decide +kernel) (by decide +kernel) (by decide +kernel)
    (by first | exact .inl (by decide +kernel) | exact .inr (by decide +kernel)) (by rw [isSubtype_type]; kernel_rfl)
theorem type_translate : typeOf (.builtin "bytes.translate") = pure (.type "method_descriptor") := by show builtinType _ = _; rw [builtinType_eq_fast]; kernel_rfl
theorem entry_translate : entryFor table "bytes.translate" = some Builtin.«bytes.translate» := entryFor_of_tree (by kernel_rfl)
theorem args_translate (a b : Value) : argsOk "bytes.translate" ⟨[a, b], []⟩ := by unfold argsOk; kernel_rfl
noncomputable def hexd (n : Nat) : Nat := Bytes.hexDigit n
theorem hex_eq (x y : UInt8) (t : Tok) : Builtin.«bytes.hex» ⟨[.bytes #[x, y] t], []⟩ = (mkStr ⟨#[hexd (x.toNat / 16), hexd (x.toNat % 16), hexd (y.toNat / 16), hexd (y.toNat % 16)]⟩ >>= ret) := by kernel_rfl
theorem encode_eq (x : PySem.Str) (t u : Tok) : Builtin.«str.encode» ⟨[.str x t, .str (PySem.Str.ofString "ascii") u], []⟩ = ((_codecs.encodeNarrow "str.encode" _codecs.asciiCodec none (.str x t) x >>= mkBytes) >>= ret) := by kernel_rfl
theorem upper_eq (b : Array UInt8) (t : Tok) : Builtin.«bytes.upper» ⟨[.bytes b t], []⟩ = (mkBytes (b.toList.map Bytes.toUpper).toArray >>= ret) := by kernel_rfl
theorem hexd_lt {n : Nat} (h : n < 16) : hexd n < 128 := by unfold hexd Bytes.hexDigit; split <;> omega
theorem hexd_hi (x : UInt8) : hexd (x.toNat / 16) < 128 := hexd_lt (by have := x.toNat_lt; omega)
theorem hexd_lo (x : UInt8) : hexd (x.toNat % 16) < 128 := hexd_lt (by omega)
theorem meets_hex (x y : UInt8) (t : Tok) : Meets (Builtin.«bytes.hex» ⟨[.bytes #[x, y] t], []⟩) (fun _ R s => R (.ok (.ret (.str ⟨#[hexd (x.toNat / 16), hexd (x.toNat % 16), hexd (y.toNat / 16), hexd (y.toNat % 16)]⟩ s.toks))) { s with toks := s.toks + 1 }) := by
  refine .of_wp fun prog w A R s h => ?_
  rw [hex_eq]
  exact wpAny_bind (wpAny_mkStr (wpAny_pure ⟨_, rfl, h⟩) (by show 4 ≤ sizeLine; rw [sizeLine_eq]; decide))
theorem meets_encode {a b c d : Nat} (t u : Tok) (ha : a < 128) (hb : b < 128) (hc : c < 128) (hd : d < 128) : Meets (Builtin.«str.encode» ⟨[.str ⟨#[a, b, c, d]⟩ t, .str (PySem.Str.ofString "ascii") u], []⟩)
    (fun _ R s => R (.ok (.ret (.bytes #[a.toUInt8, b.toUInt8, c.toUInt8, d.toUInt8] s.toks))) { s with toks := s.toks + 1 }) := by
  refine .of_wp fun prog w A R s h => ?_
  rw [encode_eq, narrow4 ha hb hc hd]
  exact wpAny_bind (wpAny_bind (wpAny_pure (wpAny_mkBytes (wpAny_pure ⟨_, rfl, h⟩) (by show 4 ≤ sizeLine; rw [sizeLine_eq]; decide))))
theorem meets_upper (b : Array UInt8) (t : Tok) (hb : b.size ≤ 1000) : Meets (Builtin.«bytes.upper» ⟨[.bytes b t], []⟩) (fun _ R s => R (.ok (.ret (.bytes (b.toList.map Bytes.toUpper).toArray s.toks))) { s with toks := s.toks + 1 }) := by
  refine .of_wp fun prog w A R s h => ?_
  rw [upper_eq]
  exact wpAny_bind (wpAny_mkBytes (wpAny_pure ⟨_, rfl, h⟩) (by rw [sizeLine_eq]; simp; omega))
section
variable {prog : Program} {w : World} {A : Around} {E : Value → Shared → Prop} {s : Shared} {t : Tok}
theorem method_hex {M : Model} {b : Array UInt8} {pl : Sem Bool} {Q : Value × List Value → Shared → Prop} (h : Q (.builtin "bytes.hex", [.bytes b t]) s) : wpAny M A (getMethod (.bytes b t) (PySem.Str.ofString "hex") pl) Q E s := by
  with_reducible exact KBd.method_of (.bytes b t) (typeIs_bytes _ _ _) FB.slot_bytes_hex FB.type_bytes_hex KBd.noRef h
theorem method_upper {M : Model} {b : Array UInt8} {pl : Sem Bool} {Q : Value × List Value → Shared → Prop} (h : Q (.builtin "bytes.upper", [.bytes b t]) s) : wpAny M A (getMethod (.bytes b t) (PySem.Str.ofString "upper") pl) Q E s := by
  with_reducible exact KBd.method_of (.bytes b t) (typeIs_bytes _ _ _) slot_upper type_upper KBd.noRef h
theorem method_translate {M : Model} {b : Array UInt8} {pl : Sem Bool} {Q : Value × List Value → Shared → Prop} (h : Q (.builtin "bytes.translate", [.bytes b t]) s) : wpAny M A (getMethod (.bytes b t) (PySem.Str.ofString "translate") pl) Q E s := by
  with_reducible exact KBd.method_of (.bytes b t) (typeIs_bytes _ _ _) slot_translate type_translate KBd.noRef h
theorem strm_of {M : Model} {pl : Sem Bool} {Q : Value × List Value → Shared → Prop} {name : PySem.Str} {id : String} (v : Value) (hT : s.TypeIs v "str") (slot : Slot "str" name id) (ty : typeOf (.builtin id) = pure (.type "method_descriptor"))
    (hd : ∀ a, v = .ref a → ∃ o, s.heap.get? a = some o ∧ o.dict = none) (h : Q (.builtin id, [v]) s) : wpAny M A (getMethod v name pl) Q E s :=
  getMethod_builtin hT PySem.F.plainAttrs_str slot ty hd h
theorem noRefS {x : PySem.Str} : ∀ a, Value.str x t = .ref a → ∃ o, s.heap.get? a = some o ∧ o.dict = none := fun _ e => nomatch e
theorem method_encode {M : Model} {x : PySem.Str} {pl : Sem Bool} {Q : Value × List Value → Shared → Prop} (h : Q (.builtin "str.encode", [.str x t]) s) : wpAny M A (getMethod (.str x t) (PySem.Str.ofString "encode") pl) Q E s := by
  with_reducible exact strm_of (.str x t) (typeIs_str _ _ _) PySem.F.slot_str_encode PySem.F.type_str_encode noRefS h
theorem call_hex {x y : UInt8} {Q : Value → Shared → Prop} (h : ∀ k, s.toks < k → Q (.str ⟨#[hexd (x.toNat / 16), hexd (x.toNat % 16), hexd (y.toNat / 16), hexd (y.toNat % 16)]⟩ s.toks) { s with toks := k }) : wpAny (model prog w) A (call (.builtin "bytes.hex") [.bytes #[x, y] t]) Q E s :=
  call_meets FB.slot_bytes_hex (typeIs_bytes _ _ _) FB.entry_bytes_hex (FB.args_bytes_hex_1 _) (meets_hex x y t) (h _ (Nat.lt_succ_self _))
theorem call_encode {a b c d : Nat} {u : Tok} {Q : Value → Shared → Prop} (ha : a < 128) (hb : b < 128) (hc : c < 128) (hd : d < 128) (h : ∀ k, s.toks < k → Q (.bytes #[a.toUInt8, b.toUInt8, c.toUInt8, d.toUInt8] s.toks) { s with toks := k }) :
    wpAny (model prog w) A (call (.builtin "str.encode") [.str ⟨#[a, b, c, d]⟩ t, .str (PySem.Str.ofString "ascii") u]) Q E s :=
  call_meets PySem.F.slot_str_encode (typeIs_str _ _ _) PySem.F.entry_str_encode (PySem.F.args_str_encode_2 _ _) (meets_encode t u ha hb hc hd) (h _ (Nat.lt_succ_self _))
theorem call_upper {b : Array UInt8} {Q : Value → Shared → Prop} (hb : b.size ≤ 1000) (h : ∀ k, s.toks < k → Q (.bytes (b.toList.map Bytes.toUpper).toArray s.toks) { s with toks := k }) :
    wpAny (model prog w) A (call (.builtin "bytes.upper") [.bytes b t]) Q E s :=
  call_meets slot_upper (typeIs_bytes _ _ _) entry_upper (args_upper _) (meets_upper b t hb) (h _ (Nat.lt_succ_self _))
end
/-- two octets in base 16 -/
noncomputable def b16 (x y : UInt8) : Array UInt8 := ([(hexd (x.toNat / 16)).toUInt8, (hexd (x.toNat % 16)).toUInt8, (hexd (y.toNat / 16)).toUInt8, (hexd (y.toNat % 16)).toUInt8].map Bytes.toUpper).toArray
end BB

section
variable {prog : Program} {w : World} {A : Around} {E : Value → Shared → Prop} {s : Shared}
theorem type_bytes {v : Array UInt8} {t : Tok} {Q : Value → Shared → Prop} (h : Q (.type "bytes") s) : wpAny (model prog w) A (call (.type "type") [.bytes v t]) Q E s :=
  call_type_of (x := .bytes v t) (Tx := "bytes") rfl (by decide) h
theorem type_bool {v : Bool} {Q : Value → Shared → Prop} (h : Q (.type "bool") s) : wpAny (model prog w) A (call (.type "type") [.bool v]) Q E s :=
  call_type_of (x := .bool v) (Tx := "bool") rfl (by decide) h
theorem type_int {v : Int} {t : Tok} {Q : Value → Shared → Prop} (h : Q (.type "int") s) : wpAny (model prog w) A (call (.type "type") [.int v t]) Q E s :=
  call_type_of (x := .int v t) (Tx := "int") rfl (by decide) h
end
namespace BB
section
variable {prog : Program} {w : World} {A : Around} {E : Value → Shared → Prop} {s : Shared} {t : Tok}
theorem call_upper4 {a b c d : UInt8} {Q : Value → Shared → Prop} (h : ∀ k, s.toks < k → Q (.bytes ((#[a, b, c, d] : Array UInt8).toList.map Builtin.Bytes.toUpper).toArray s.toks) { s with toks := k }) :
    wpAny (model prog w) A (call (.builtin "bytes.upper") [.bytes #[a, b, c, d] t]) Q E s := call_upper (by simp) h
theorem call_enc4 {x y : UInt8} {u : Tok} {Q : Value → Shared → Prop} (h : ∀ k, s.toks < k → Q (.bytes #[(hexd (x.toNat / 16)).toUInt8, (hexd (x.toNat % 16)).toUInt8, (hexd (y.toNat / 16)).toUInt8, (hexd (y.toNat % 16)).toUInt8] s.toks) { s with toks := k }) :
    wpAny (model prog w) A (call (.builtin "str.encode") [.str ⟨#[hexd (x.toNat / 16), hexd (x.toNat % 16), hexd (y.toNat / 16), hexd (y.toNat % 16)]⟩ t, .str (PySem.Str.ofString "ascii") u]) Q E s :=
  call_encode (hexd_hi _) (hexd_lo _) (hexd_hi _) (hexd_lo _) h
end
end BB
section
variable {w : World} {p : Program} {loose : List Str} {mean : ExcName → Option Value} {mg mb : Str → Option Value} {dp un : Nat} {gd : Option (List Code)} {cn : Str} {cs : Scope} {a : Addr} {ccd : Value} {cl : List (Str × Addr)} {outer : List Env} {A₀ : Around} {base h₀ : Heap} {L : Addr} {m : Str → Option Value} {news rest : List (Addr × Obj)} {s : Shared} {Q E : Value → Shared → Prop}
set_option maxRecDepth 100000 in
set_option maxHeartbeats 2000000 in
theorem b16_call {x y : UInt8} {tp : Tok} (C : Cx w p loose mean mg mb A₀ base outer h₀ L m s.heap news) (hk : cs.kind = .function) (hd : dp + 8 < recursionLimit) (hu : un + 40 < cLine)
  (hret : ∀ (h' : Heap) (tk tk' : Nat), s.toks < tk → tk < tk' → Cx w p loose mean mg mb A₀ base outer h₀ L m h' news → Q (.bytes (BB.b16 x y) tk) { s with heap := h', toks := tk' }) :
  wpAny (model PySem.Challenge.pw_ij0047_01 w) (ktrTop dp un gd cn cs L a ccd cl outer) (call (.ref 464) [.bytes #[x, y] tp]) Q E s := by
  obtain ⟨B, F, X, N, T, XB, TB⟩ := C
  refine wpAny_call ?_
  k_dflt cell_enter
  refine gt_up (Nat.le_add_right s.toks _) (fun tk0 htk0 => ?_)
  k_steps
  exact hret _ _ _ (by kwd_inv) (by kwd_inv) (by kwd_rel)
end

namespace B64
set_option maxRecDepth 10000

theorem and_nat (a b : Nat) : Builtin.bitAnd (a : Int) (b : Int) = ((a &&& b : Nat) : Int) := by
  unfold Builtin.bitAnd
  have h1 : decide ((0 : Int) ≤ (a : Int)) = true := decide_eq_true (Int.natCast_nonneg _)
  have h2 : decide ((0 : Int) ≤ (b : Int)) = true := decide_eq_true (Int.natCast_nonneg _)
  rw [h1, h2]; rfl
theorem not_not (a : Int) : Builtin.bitNot (Builtin.bitNot a) = a := by unfold Builtin.bitNot; omega
theorem or_nat (a b : Nat) : Builtin.bitOr (a : Int) (b : Int) = ((a ||| b : Nat) : Int) := by
  unfold Builtin.bitOr Builtin.bitAnd
  have h1 : decide ((0 : Int) ≤ Builtin.bitNot (a : Int)) = false := decide_eq_false (by unfold Builtin.bitNot; omega)
  have h2 : decide ((0 : Int) ≤ Builtin.bitNot (b : Int)) = false := decide_eq_false (by unfold Builtin.bitNot; omega)
  rw [h1, h2]
  dsimp only
  rw [not_not, not_not, not_not]
  rfl
theorem and_low (a k : Nat) : a &&& (2 ^ k - 1) = a % 2 ^ k := Nat.and_two_pow_sub_one_eq_mod a k
theorem lc1 (x : UInt8) : Builtin.bitAnd (Builtin.bitOr ((0 : Int) * 2 ^ Int.toNat 8) (x.toNat : Int)) 65535 = (x.toNat : Int) := by
  have h := x.toNat_lt
  have e0 : ((0 : Int) * 2 ^ Int.toNat 8) = ((0 : Nat) : Int) := by decide
  have e1 : (65535 : Int) = ((2 ^ 16 - 1 : Nat) : Int) := by decide
  rw [e0, e1, or_nat, and_nat, and_low, Nat.zero_or]
  congr 1
  exact Nat.mod_eq_of_lt (by omega)
theorem lc2 (x y : UInt8) : Builtin.bitAnd (Builtin.bitOr ((x.toNat : Int) * 2 ^ Int.toNat 8) (y.toNat : Int)) 65535 = ((x.toNat * 256 + y.toNat : Nat) : Int) := by
  have h := x.toNat_lt
  have h' := y.toNat_lt
  have e0 : ((x.toNat : Int) * 2 ^ Int.toNat 8) = ((2 ^ 8 * x.toNat : Nat) : Int) := by
    rw [show (2 : Int) ^ Int.toNat 8 = 256 by decide, show (2 ^ 8 * x.toNat : Nat) = x.toNat * 256 by omega, Int.natCast_mul]; rfl
  have e1 : (65535 : Int) = ((2 ^ 16 - 1 : Nat) : Int) := by decide
  rw [e0, e1, or_nat, and_nat, and_low, ← Nat.two_pow_add_eq_or_of_lt (by omega)]
  congr 1
  rw [Nat.mod_eq_of_lt (by omega)]
  omega
theorem idx1 (x : UInt8) : Builtin.bitAnd (((x.toNat : Int)).fdiv (2 ^ ((0 : Int) + 8 - 6).toNat)) 63 = ((x.toNat / 4 : Nat) : Int) := by
  have h := x.toNat_lt
  have e0 : ((x.toNat : Int)).fdiv (2 ^ ((0 : Int) + 8 - 6).toNat) = ((x.toNat / 4 : Nat) : Int) := by
    rw [show (2 : Int) ^ ((0 : Int) + 8 - 6).toNat = 4 by decide, Int.fdiv_eq_ediv_of_nonneg _ (by decide)]; rfl
  rw [e0, show (63 : Int) = ((2 ^ 6 - 1 : Nat) : Int) by decide, and_nat, and_low]
  congr 1
  exact Nat.mod_eq_of_lt (by omega)
theorem idx2 (n : Nat) : Builtin.bitAnd (((n : Nat) : Int).fdiv (2 ^ ((0 : Int) + 8 - 6 + 8 - 6).toNat)) 63 = ((n / 16 % 64 : Nat) : Int) := by
  have e0 : ((n : Int)).fdiv (2 ^ ((0 : Int) + 8 - 6 + 8 - 6).toNat) = ((n / 16 : Nat) : Int) := by
    rw [show (2 : Int) ^ ((0 : Int) + 8 - 6 + 8 - 6).toNat = 16 by decide, Int.fdiv_eq_ediv_of_nonneg _ (by decide)]; rfl
  rw [e0, show (63 : Int) = ((2 ^ 6 - 1 : Nat) : Int) by decide, and_nat, and_low]
theorem idx3 (n : Nat) : Builtin.bitAnd ((n : Nat) : Int) 15 * 2 ^ Int.toNat 2 = ((n % 16 * 4 : Nat) : Int) := by
  rw [show (15 : Int) = ((2 ^ 4 - 1 : Nat) : Int) by decide, and_nat, and_low, show (2 : Int) ^ Int.toNat 2 = 4 by decide]
  rw [Int.natCast_mul]; rfl
theorem and15 (n : Nat) : (Builtin.bitAnd ((n : Nat) : Int) 15).natAbs < 2 ^ 64 := by
  rw [show (15 : Int) = ((2 ^ 4 - 1 : Nat) : Int) by decide, and_nat, and_low]
  have : n % 2 ^ 4 < 16 := Nat.mod_lt _ (by decide)
  omega
theorem or_split : ∀ n x y : Nat, x < n → x ||| y = (x ^^^ y) + (x &&& y)
  | 0, x, y, h => by omega
  | n + 1, x, y, h => by
    by_cases h0 : x = 0
    · subst h0; simp
    · have ih := or_split n (x / 2) (y / 2) (by omega)
      have d1 : (x ||| y) / 2 = x / 2 ||| y / 2 := Nat.or_div_two
      have d2 : (x ^^^ y) / 2 = x / 2 ^^^ y / 2 := Nat.xor_div_two
      have d3 : (x &&& y) / 2 = x / 2 &&& y / 2 := Nat.and_div_two
      have m1 : (x ||| y) % 2 = (x % 2) ||| (y % 2) := Nat.or_mod_two_pow (n := 1)
      have m2 : (x ^^^ y) % 2 = (x % 2) ^^^ (y % 2) := Nat.xor_mod_two_pow (n := 1)
      have m3 : (x &&& y) % 2 = (x % 2) &&& (y % 2) := Nat.and_mod_two_pow (n := 1)
      have c : (x % 2) ||| (y % 2) = ((x % 2) ^^^ (y % 2)) + ((x % 2) &&& (y % 2)) := by
        have hx := Nat.mod_two_eq_zero_or_one x
        have hy := Nat.mod_two_eq_zero_or_one y
        rcases hx with hx | hx <;> rcases hy with hy | hy <;> rw [hx, hy] <;> rfl
      have e1 : x ||| y = 2 * (x / 2 ||| y / 2) + (x % 2 ||| y % 2) := by rw [← d1, ← m1]; exact (Nat.div_add_mod _ 2).symm
      have e2 : x ^^^ y = 2 * (x / 2 ^^^ y / 2) + (x % 2 ^^^ y % 2) := by rw [← d2, ← m2]; exact (Nat.div_add_mod _ 2).symm
      have e3 : x &&& y = 2 * (x / 2 &&& y / 2) + (x % 2 &&& y % 2) := by rw [← d3, ← m3]; exact (Nat.div_add_mod _ 2).symm
      rw [e1, e2, e3, ih, c, Nat.mul_add, Nat.add_add_add_comm]
theorem xor_nat (a b : Nat) : Builtin.bitXor (a : Int) (b : Int) = ((a ^^^ b : Nat) : Int) := by
  unfold Builtin.bitXor
  rw [or_nat, and_nat, or_split (a + 1) a b (by omega)]
  push_cast; omega
theorem e1024 (n : Nat) : ((n : Nat) : Int).fdiv 1024 = ((n / 1024 : Nat) : Int) := by rw [Int.fdiv_eq_ediv_of_nonneg _ (by decide)]; rfl
theorem e16 (n : Nat) : (((n : Nat) : Int).fdiv 16).fmod 64 = ((n / 16 % 64 : Nat) : Int) := by rw [Int.fdiv_eq_ediv_of_nonneg _ (by decide), Int.fmod_eq_emod_of_nonneg _ (by decide)]; rfl
theorem elow (n : Nat) : ((n : Nat) : Int).fmod 16 * 4 = ((n % 16 * 4 : Nat) : Int) := by rw [Int.fmod_eq_emod_of_nonneg _ (by decide), Int.natCast_mul]; rfl
end B64

namespace BM
open Builtin
set_option maxRecDepth 100000
section
variable {prog : Program} {w : World} {A : Around} {E : Value → Shared → Prop} {s : Shared}
noncomputable abbrev ba (b : Array UInt8) : Obj := { cls := .type "bytearray", data := .bytearray b }
/-- one turn of the making of bytes out of ints -/
theorem turn {R : Result → Shared → Prop} {l I S : Addr} {vs : Array Value} {i : Nat} {n : Int} {t : Tok} {b : Array UInt8} (hIS : I ≠ S) (hlI : l ≠ I) (hlS : l ≠ S) (hl : s.heap.IsList l vs) (hit : s.heap.IsListIter I l i) (hS : s.heap.get? S = some (ba b))
    (hx : vs[i]? = some (.int n t)) (h0 : 0 ≤ n) (h1 : n < 256) (hb : b.size < sizeLine)
    (h : ∀ h', h'.IsList l vs → h'.IsListIter I l (i + 1) → h'.get? S = some (ba (b.push n.toNat.toUInt8)) → (∀ a o, a ≠ I → a ≠ S → s.heap.get? a = some o → h'.get? a = some o) →
      codeAny (model prog w) A (.builtin "bytes.__new__.loop" ⟨[.type "bytes", .ref I, .ref S], []⟩) R { s with heap := h' }) :
    codeAny (model prog w) A (.builtin "bytes.__new__.loop" ⟨[.type "bytes", .ref I, .ref S], []⟩) R s := by
  refine codeAny_builtin PySem.F.bm_entry_loop ?_
  rw [Around.under_plainId PySem.F.bm_plain_loop _]
  show wpAny _ A.in1 (pyNext (.ref I) >>= _) _ _ s
  refine wpAny_bind (wpAny_pyNext_list_item (x := .int n t) hit hl hx fun h' hit' hs => ?_)
  have eS : h'.get? S = some (ba b) := (hs.2 S (Ne.symm hIS)).trans hS
  have eS' : (h'.update S (Obj.mapBytearray (·.push n.toNat.toUInt8))).get? S = some (ba (b.push n.toNat.toUInt8)) := Heap.get?_update_self (Obj.mapBytearray (·.push n.toNat.toUInt8)) eS rfl
  refine wpAny_bind (wpAny_holding (wpAny_of_eq (rfl : asIndex (.int n t) = pure n) (wpAny_bind (wpAny_letGo ?_))))
  refine bm_if_false (by simp only [Bool.or_eq_false_iff, decide_eq_false_iff_not]; omega) (wpAny_bind ?_)
  show wpAny _ _ (updateBytearray S (·.push n.toNat.toUInt8)) _ _ _
  unfold updateBytearray
  refine wpAny_bind (wpAny_load eS ?_)
  show wpAny _ _ (update S (Obj.mapBytearray (·.push n.toNat.toUInt8)) >>= fun _ => lookBehind S) _ _ _
  refine wpAny_bind (wpAny_update eS (wpAny_lookBehind eS' ?_ (wpAny_pure ⟨plainId_quiet PySem.F.bm_plain_loop _, h _ ?_ ?_ eS' fun a o ha hb' e => ?_⟩)))
  · show (if (b.push n.toNat.toUInt8).size > sizeLine then some "bytearray:memory" else none) = none
    rw [if_neg (by rw [Array.size_push]; omega)]
  · exact (hl.extBut hs.extBut hlI).extBut (Heap.SameBut.update ..).extBut hlS
  · exact hit'.extBut (Heap.SameBut.update ..).extBut hIS
  · exact (Heap.get?_update_other _ _ (Ne.symm hb')).trans (hs.extBut a o ha e)
theorem stop {R : Result → Shared → Prop} {l I S : Addr} {vs : Array Value} {i : Nat} {b : Array UInt8} (hh : A.handled = none) (hIS : I ≠ S) (hl : s.heap.IsList l vs) (hit : s.heap.IsListIter I l i) (hS : s.heap.get? S = some (ba b))
    (hx : vs[i]? = none) (hb : b.size ≤ sizeLine)
    (h : ∀ h', (∀ a o, a ≠ I → s.heap.get? a = some o → h'.get? a = some o) → R (.ok (.ret (.bytes b s.toks))) { s with heap := h', toks := s.toks + 1 }) :
    codeAny (model prog w) A (.builtin "bytes.__new__.loop" ⟨[.type "bytes", .ref I, .ref S], []⟩) R s := by
  refine codeAny_builtin PySem.F.bm_entry_loop ?_
  rw [Around.under_plainId PySem.F.bm_plain_loop _]
  show wpAny _ A.in1 (pyNext (.ref I) >>= _) _ _ s
  refine wpAny_bind (wpAny_pyNext_list_end hh hit hl hx fun h' he => wpAny_bind ?_)
  have eS : h'.get? S = some (ba b) := he S _ (Ne.symm hIS) hS
  unfold Builtin.Bytes.payload Builtin.Bytes.payload?
  refine wpAny_bind (wpAny_bind (wpAny_load eS (wpAny_pure (wpAny_pure (wpAny_bind (wpAny_mkBytes ?_ hb))))))
  show wpAny _ _ (if (Value.type "bytes" == Value.type "bytes") = true then _ else _) _ _ _
  refine bm_if_true (by decide) ?_
  first
    | exact wpAny_pure (h h' fun a o ha e => he a o ha e)
    | exact wpAny_bind (wpAny_pure (wpAny_pure (h h' fun a o ha e => he a o ha e)))
/-- the octets of a list of ints -/
noncomputable def octs (vs : List Value) : Array UInt8 := (vs.map fun v => match v with | .int n _ => n.toNat.toUInt8 | _ => 0).toArray
theorem turns {R : Result → Shared → Prop} {l I S : Addr} {vs : Array Value} (hh : A.handled = none) (hIS : I ≠ S) (hlI : l ≠ I) (hlS : l ≠ S) (hv : ∀ v ∈ vs.toList, ∃ n t, v = .int n t ∧ 0 ≤ n ∧ n < 256) (hz : vs.size ≤ sizeLine) :
    ∀ (k i : Nat) (s : Shared), i + k = vs.size → s.heap.IsList l vs → s.heap.IsListIter I l i → s.heap.get? S = some (ba (octs (vs.toList.take i))) →
      (∀ h', (∀ a o, a ≠ I → a ≠ S → s.heap.get? a = some o → h'.get? a = some o) → R (.ok (.ret (.bytes (octs vs.toList) s.toks))) { s with heap := h', toks := s.toks + 1 }) →
      codeAny (model prog w) A (.builtin "bytes.__new__.loop" ⟨[.type "bytes", .ref I, .ref S], []⟩) R s := by
  intro k
  induction k with
  | zero =>
    intro i s hi hl hit hS h
    have e : vs.toList.take i = vs.toList := List.take_of_length_le (by rw [Array.length_toList]; omega)
    rw [e] at hS
    exact stop hh hIS hl hit hS (by rw [Array.getElem?_eq_none]; omega) (by simp [octs]; exact hz) fun h' hk => h h' fun a o ha _ e => hk a o ha e
  | succ k ih =>
    intro i s hi hl hit hS h
    have hlt : i < vs.size := by omega
    have hx : vs[i]? = some vs[i] := Array.getElem?_eq_getElem hlt
    obtain ⟨n, t, hn, h0, h1⟩ := hv vs[i] (by simp)
    rw [hn] at hx
    have ep : (octs (vs.toList.take i)).push n.toNat.toUInt8 = octs (vs.toList.take (i + 1)) := by
      have hx' : vs.toList[i]? = some (.int n t) := by simpa using hx
      unfold octs
      rw [List.take_add_one, hx']
      simp
    refine turn hIS hlI hlS hl hit hS hx h0 h1 (by simp [octs]; omega) fun h' a1 a2 a3 a4 => ?_
    rw [ep] at a3
    exact ih (i + 1) _ (by omega) a1 a2 a3 fun h'' hk => h h'' fun a o ha hb e => hk a o ha hb (a4 a o ha hb e)
theorem made {l : Addr} {vs : Array Value} {Q : Value → Shared → Prop} (hh : A.handled = none) (hl : s.heap.IsList l vs) (hv : ∀ v ∈ vs.toList, ∃ n t, v = .int n t ∧ 0 ≤ n ∧ n < 256) (hz : vs.size ≤ sizeLine)
    (hQ : ∀ h', (∀ a o, s.heap.get? a = some o → h'.get? a = some o) → Q (.bytes (octs vs.toList) s.toks) { s with heap := h', toks := s.toks + 1 }) :
    codeAny (model prog w) A (.call (.builtin "bytes.__new__") ⟨[.type "bytes", .ref l], []⟩) (wants Q E) s := by
  have hT : s.TypeIs (.ref l) "list" := hl.typeIs
  obtain ⟨ol, hol, hoc, nl, hod⟩ := id hl
  have hlt : l < s.heap.objs.size := Heap.lt_size hol
  refine codeAny_of_tree ?_
  show wpAny _ A.in1 (do checkBuiltinCall "bytes.__new__" ⟨[.type "bytes", .ref l], []⟩; again (.builtin "bytes.__new__" ⟨[.type "bytes", .ref l], []⟩)) _ _ s
  refine wpAny_bind (wpAny_of_eq (PySem.F.bm_newCall _) (wpAny_pure ⟨plainId_quiet PySem.F.bm_plain _, codeAny_builtin PySem.F.bm_entry ?_⟩))
  rw [Around.under_plainId PySem.F.bm_plain _]
  unfold Builtin.«bytes.__new__»
  refine wpAny_bind (wpAny_of_eq (a := true) rfl (bm_if_false rfl (wpAny_bind (wpAny_of_eq PySem.F.bm_sub (bm_if_false rfl (wpAny_bind (wpAny_of_eq (PySem.F.bm_bind _) ?_)))))))
  refine wpAny_bind (wpAny_of_eq (a := ()) rfl (wpAny_bind (wpAny_of_eq (a := ()) rfl (bm_if_false rfl (wpAny_bind (wpAny_specialOf hT PySem.F.bm_no_bytes ?_))))))
  refine wpAny_bind (wpAny_bind ?_)
  show wpAny _ _ (load l >>= _) _ _ _
  refine wpAny_bind (wpAny_load hol ?_)
  rw [hod]
  refine wpAny_pure (wpAny_pure (bm_if_false rfl (wpAny_bind (wpAny_specialOf hT PySem.F.bm_no_index (bm_if_true rfl ?_)))))
  first
    | show wpAny _ _ (Builtin.Bytes.buffer? "bytes.__new__" (.ref l) true >>= _) _ _ _
    | (refine wpAny_bind ?_; show wpAny _ _ (Builtin.Bytes.buffer? "bytes.__new__" (.ref l) true >>= _) _ _ _)
  refine wpAny_bind ?_
  unfold Builtin.Bytes.buffer?
  refine wpAny_bind (wpAny_specialOf hT PySem.F.bm_no_buffer (wpAny_bind (wpAny_specialOf hT PySem.F.bm_no_buffer (wpAny_pure (wpAny_bind (wpAny_tryCatch (wpAny_pyIter_list hl ?_)))))))
  have hl₁ : (s.heap.push { cls := .type "list_iterator", data := .fields #[.ref l, .int 0 0] }).IsList l vs := hl.push _
  have hT₁ : ({ s with heap := s.heap.push { cls := .type "list_iterator", data := .fields #[.ref l, .int 0 0] } } : Shared).TypeIs (.ref l) "list" := Heap.IsList.typeIs (s := { s with heap := s.heap.push { cls := .type "list_iterator", data := .fields #[.ref l, .int 0 0] } }) hl₁
  refine wpAny_bind (wpAny_holding ?_)
  unfold Builtin.Bytes.lengthHint
  refine wpAny_bind (wpAny_specialOf hT₁ slot_list_len.lookup ?_)
  dsimp only
  rw [PySem.F.bm_split]
  dsimp only
  refine wpAny_bind (wpAny_isInstance hT₁ PySem.F.bm_sub_list (bm_if_false rfl (bm_if_true (by decide +kernel) (wpAny_pure (wpAny_bind ?_)))))
  unfold Builtin.Bytes.newBytearray
  refine wpAny_newObj_type ?_ (Nat.zero_le _)
  have hsz : (s.heap.push { cls := .type "list_iterator", data := .fields #[.ref l, .int 0 0] }).objs.size = s.heap.objs.size + 1 := Heap.size_push _ _
  have main := turns (prog := prog) (w := w) (A := A) (R := wants Q E) (l := l) (I := s.heap.objs.size) (S := (s.heap.push { cls := .type "list_iterator", data := .fields #[.ref l, .int 0 0] }).objs.size) (vs := vs) hh (by rw [hsz]; exact Nat.ne_of_lt (Nat.lt_succ_self _)) (Nat.ne_of_lt hlt) (by rw [hsz]; exact Nat.ne_of_lt (Nat.lt_succ_of_lt hlt)) hv hz
    vs.size 0 { s with heap := (s.heap.push { cls := .type "list_iterator", data := .fields #[.ref l, .int 0 0] }).push (ba #[]) } (Nat.zero_add _) (hl₁.push _) ⟨_, Heap.get?_push_of_some _ (Heap.get?_push_size _ rfl), rfl, rfl⟩ (Heap.get?_push_size _ rfl)
    fun h' hk => hQ h' fun a o e => hk a o (Nat.ne_of_lt (Heap.lt_size e)) (by rw [hsz]; exact Nat.ne_of_lt (Nat.lt_succ_of_lt (Heap.lt_size e))) (Heap.get?_push_of_some _ (Heap.get?_push_of_some _ e))
  first
    | exact wpAny_pure ⟨plainId_quiet PySem.F.bm_plain_loop _, main⟩
    | exact wpAny_pure (wpAny_pure ⟨plainId_quiet PySem.F.bm_plain_loop _, main⟩)
/-- bytes(list of ints), with the token -/
theorem bytes_of {l : Addr} {vs : Array Value} {Q : Value → Shared → Prop} (hh : A.handled = none) (hl : s.heap.IsList l vs) (hv : ∀ v ∈ vs.toList, ∃ n t, v = .int n t ∧ 0 ≤ n ∧ n < 256) (hz : vs.size ≤ sizeLine)
    (hQ : ∀ h', (∀ a o, s.heap.get? a = some o → h'.get? a = some o) → Q (.bytes (octs vs.toList) s.toks) { s with heap := h', toks := s.toks + 1 }) :
    wpAny (model prog w) A (call (.type "bytes") [.ref l]) Q E s := by
  refine callType_codes (Q₁ := fun obj s₁ => s₁.TypeIs obj "bytes" ∧ Q obj s₁) PySem.F.bm_called (PySem.F.bm_typeCall _) PySem.F.entry_object_init
    (made hh hl hv hz fun h' hk => ⟨PySem.W.typeIs_bytes _ _ _, hQ h' hk⟩) fun obj s₁ h₁ => ?_
  exact ⟨h₁.1, PySem.F.args_object_init_2 obj _, object_init_meets PySem.F.bm_called.init.lookup PySem.F.bm_called.made (by decide) prog w A.in1 _ s₁ ⟨h₁.1, rfl, h₁.2⟩⟩
end
noncomputable def b64tab : List UInt8 := [65, 66, 67, 68, 69, 70, 71, 72, 73, 74, 75, 76, 77, 78, 79, 80, 81, 82, 83, 84, 85, 86, 87, 88, 89, 90, 97, 98, 99, 100, 101, 102, 103, 104, 105, 106, 107, 108, 109, 110, 111, 112, 113, 114, 115, 116, 117, 118, 119, 120, 121, 122, 48, 49, 50, 51, 52, 53, 54, 55, 56, 57, 43, 47]
noncomputable def sx (n : Nat) : UInt8 := b64tab.getD n 0
/-- two octets in base 64 -/
noncomputable def b64 (x y : UInt8) : Array UInt8 := #[sx (x.toNat / 4), sx ((x.toNat * 256 + y.toNat) / 16 % 64), sx ((x.toNat * 256 + y.toNat) % 16 * 4), 61]
theorem octs4 (a b c : Nat) (t1 t2 t3 t4 : Tok) : octs [.int ((b64tab.getD a 0).toNat : Int) t1, .int ((b64tab.getD b 0).toNat : Int) t2, .int ((b64tab.getD c 0).toNat : Int) t3, .int 61 t4] = #[sx a, sx b, sx c, 61] := by
  have e : ∀ u : UInt8, ((u.toNat : Int)).toNat.toUInt8 = u := fun u => by rw [Int.toNat_natCast]; exact UInt8.ofNat_toNat
  unfold octs
  simp only [List.map_cons, List.map_nil, e]
  rfl
end BM
namespace BM
noncomputable def tabOf (a b : UInt8) : Array UInt8 := (((Array.range 256).map (·.toUInt8)).setIfInBounds 43 a).setIfInBounds 47 b
noncomputable def tr (a b c : UInt8) : UInt8 := if c = 47 then b else if c = 43 then a else c
theorem tab_size (a b : UInt8) : (tabOf a b).size = 256 := by simp [tabOf]
theorem tab_at (a b c : UInt8) : (tabOf a b).getD c.toNat c = tr a b c := by
  have h := c.toNat_lt
  have hs : c.toNat < (((((Array.range 256).map (·.toUInt8)).setIfInBounds 43 a).setIfInBounds 47 b) : Array UInt8).size := by simpa using h
  unfold tabOf tr
  rw [Array.getD, dif_pos hs]
  show ((((Array.range 256).map (·.toUInt8)).setIfInBounds 43 a).setIfInBounds 47 b)[c.toNat] = _
  have e47 : c = 47 ↔ c.toNat = 47 := ⟨fun e => by rw [e]; rfl, fun e => by rw [← UInt8.ofNat_toNat (x := c), e]; rfl⟩
  have e43 : c = 43 ↔ c.toNat = 43 := ⟨fun e => by rw [e]; rfl, fun e => by rw [← UInt8.ofNat_toNat (x := c), e]; rfl⟩
  rw [Array.getElem_setIfInBounds, Array.getElem_setIfInBounds]
  simp only [eq_comm (a := (47 : Nat)), eq_comm (a := (43 : Nat)), ← e47, ← e43]
  have this : c.toNat.toUInt8 = c := UInt8.ofNat_toNat
  have hr : c.toNat < ((Array.range 256).map (fun x : Nat => x.toUInt8)).size := by simpa using h
  have hm : ((Array.range 256).map (fun x : Nat => x.toUInt8))[c.toNat] = c := by
    rw [Array.getElem_map, Array.getElem_range]; exact this
  rw [hm]
  all_goals simpa using h
theorem maketrans_eq (a b : UInt8) (t u : Tok) : Builtin.«bytes.maketrans» ⟨[.bytes #[43, 47] t, .bytes #[a, b] u], []⟩ = (mkBytes (tabOf a b) >>= ret) := by kernel_rfl
theorem entry_mt : entryFor table "bytes.maketrans" = some Builtin.«bytes.maketrans» := by first | exact entryFor_of_fast (by kernel_rfl) | exact entryFor_of_tree (by kernel_rfl)
theorem plain_mt : plainId "bytes.maketrans" = true := by decide +kernel
theorem check_mt (a b : Value) : checkBuiltinCall "bytes.maketrans" ⟨[a, b], []⟩ = pure () := by kernel_rfl
theorem translate_eq (c1 c2 c3 c4 a b : UInt8) (t u : Tok) : Builtin.«bytes.translate» ⟨[.bytes #[c1, c2, c3, c4] t, .bytes (tabOf a b) u], []⟩ =
    (if (#[(tabOf a b).getD c1.toNat c1, (tabOf a b).getD c2.toNat c2, (tabOf a b).getD c3.toNat c3, (tabOf a b).getD c4.toNat c4] : Array UInt8) == #[c1, c2, c3, c4] then (do rule "bytes.translate.unchanged"; ret (.bytes #[c1, c2, c3, c4] t))
      else (mkBytes #[(tabOf a b).getD c1.toNat c1, (tabOf a b).getD c2.toNat c2, (tabOf a b).getD c3.toNat c3, (tabOf a b).getD c4.toNat c4] >>= ret)) := by kernel_rfl
section
variable {prog : Program} {w : World} {A : Around} {E : Value → Shared → Prop} {s : Shared}
theorem call_mt {a b : UInt8} {t u : Tok} {Q : Value → Shared → Prop} (h : ∀ k, s.toks < k → Q (.bytes (tabOf a b) s.toks) { s with toks := k }) :
    wpAny (model prog w) A (call (.builtin "bytes.maketrans") [.bytes #[43, 47] t, .bytes #[a, b] u]) Q E s := by
  refine wpAny_call (codeAny_call_builtin plain_mt entry_mt ?_)
  rw [check_mt]
  refine wpAny_pure ?_
  rw [maketrans_eq]
  exact wpAny_bind (wpAny_mkBytes (wpAny_pure (h _ (Nat.lt_succ_self _))) (by rw [tab_size, sizeLine_eq]; decide))
theorem call_tr {c1 c2 c3 c4 a b : UInt8} {t u : Tok} {Q : Value → Shared → Prop} (h : ∀ tk k, (tk = t ∧ k = s.toks) ∨ (tk = s.toks ∧ k = s.toks + 1) → Q (.bytes #[tr a b c1, tr a b c2, tr a b c3, tr a b c4] tk) { s with toks := k }) :
    wpAny (model prog w) A (call (.builtin "bytes.translate") [.bytes #[c1, c2, c3, c4] t, .bytes (tabOf a b) u]) Q E s := by
  refine call_meets (S := fun _ R s => ∀ tk k, (tk = t ∧ k = s.toks) ∨ (tk = s.toks ∧ k = s.toks + 1) → R (.ok (.ret (.bytes #[tr a b c1, tr a b c2, tr a b c3, tr a b c4] tk))) { s with toks := k }) BB.slot_translate (typeIs_bytes _ _ _) BB.entry_translate (BB.args_translate _ _) (.of_wp fun prog w A R s h => ?_) h
  rw [translate_eq]
  simp only [tab_at]
  split
  · rename_i he
    have he' := eq_of_beq he
    have h1 := h t s.toks (.inl ⟨rfl, rfl⟩)
    rw [he'] at h1
    exact wpAny_bind (wpAny_rule (wpAny_pure ⟨_, rfl, h1⟩))
  · exact wpAny_bind (wpAny_mkBytes (wpAny_pure ⟨_, rfl, h _ _ (.inr ⟨rfl, rfl⟩)⟩) (by show 4 ≤ sizeLine; rw [sizeLine_eq]; decide))
end
end BM

theorem Stood.bytes {M : Model} {A : Around} {a : Addr} {kw : List (Str × Value)} {Q E : Value → Shared → Prop} {s : Shared} (h : Stood (wpAny M A (call (.type "bytes") [.ref a] kw) Q E s)) : wpAny M A (call (.type "bytes") [.ref a] kw) Q E s := h.go
theorem lshift15 {prog : Program} {w : World} {A : Around} {E : Value → Shared → Prop} {s : Shared} {n : Nat} {t u : Tok} {Q : Value → Shared → Prop} (h : Q (.int (Builtin.bitAnd ((n : Nat) : Int) 15 * 2 ^ (2 : Int).toNat) s.toks) { s with toks := s.toks + 1 }) :
    wpAny (model prog w) A (binaryOp .LShift (.int (Builtin.bitAnd ((n : Nat) : Int) 15) t) (.int 2 u)) Q E s := lshift_int_small (by decide) (by decide) (B64.and15 _) h
section
variable {w : World} {p : Program} {loose : List Str} {mean : ExcName → Option Value} {mg mb : Str → Option Value} {dp un : Nat} {gd : Option (List Code)} {cn : Str} {cs : Scope} {a : Addr} {ccd : Value} {cl : List (Str × Addr)} {outer : List Env} {A₀ : Around} {base h₀ : Heap} {L : Addr} {m : Str → Option Value} {news rest : List (Addr × Obj)} {s : Shared} {Q E : Value → Shared → Prop}
theorem bytes_start {A : Around} {b : Array UInt8} {t : Tok} (C : Cx w p loose mean mg mb A₀ base outer h₀ L m s.heap news)
    (h : ∀ (I : Nat) (h' : Heap) (o : Obj), o.cls = .type "bytes_iterator" → o.data = .fields #[.bytes b t, .int (0 : Nat) 0] → (∀ q ∈ news, q.1 < I) → (∀ q ∈ news, q.1 ≠ I) → Cx w p loose mean mg mb A₀ base outer h₀ L m h' ((I, o) :: news) → Q (.ref I) { s with heap := h' }) :
    wpAny (model PySem.Challenge.pw_ij0047_01 w) A (pyIter (.bytes b t)) Q E s :=
  KBw.pyIter_bytes (h s.heap.objs.size _ _ rfl rfl (fun q hq => Heap.lt_size (C.N q hq).1) C.ne (C.push _))
theorem bytes_next {A : Around} {b : Array UInt8} {t : Tok} {I i : Nat} {c : UInt8} {o : Obj} {Q : Option Value → Shared → Prop} (C : Cx w p loose mean mg mb A₀ base outer h₀ L m s.heap ((I, o) :: news)) (r : ∀ q ∈ news, q.1 ≠ I)
    (hc : o.cls = .type "bytes_iterator") (hd : o.data = .fields #[.bytes b t, .int i 0]) (hx : b[i]? = some c)
    (h : ∀ (h' : Heap) (o' : Obj), o'.cls = .type "bytes_iterator" → o'.data = .fields #[.bytes b t, .int (i + 1 : Nat) 0] → Cx w p loose mean mg mb A₀ base outer h₀ L m h' ((I, o') :: news) → Q (some (.int (c.toNat : Int) s.toks)) { s with heap := h', toks := s.toks + 1 }) :
    wpAny (model PySem.Challenge.pw_ij0047_01 w) A (pyNext (.ref I)) Q E s :=
  KBw.next_item ⟨o, (C.N _ (.head _)).1, hc, hd⟩ hx fun h' ⟨o', ho', hc', hd'⟩ hs => h h' o' hc' hd' (C.setHead r hs ho')
theorem bytes_end {A : Around} {b : Array UInt8} {t : Tok} {I i : Nat} {o : Obj} {Q : Option Value → Shared → Prop} (hh : A.handled = none) (C : Cx w p loose mean mg mb A₀ base outer h₀ L m s.heap ((I, o) :: news)) (r : ∀ q ∈ news, q.1 ≠ I)
    (hc : o.cls = .type "bytes_iterator") (hd : o.data = .fields #[.bytes b t, .int i 0]) (hx : b[i]? = none)
    (h : ∀ (h' : Heap), Cx w p loose mean mg mb A₀ base outer h₀ L m h' news → Q none { s with heap := h' }) :
    wpAny (model PySem.Challenge.pw_ij0047_01 w) A (pyNext (.ref I)) Q E s :=
  KBw.next_end hh ⟨o, (C.N _ (.head _)).1, hc, hd⟩ hx fun h' hs => h h' (C.ext r hs)
end
section
variable {w : World} {p : Program} {loose : List Str} {mean : ExcName → Option Value} {mg mb : Str → Option Value} {dp un : Nat} {gd : Option (List Code)} {cn : Str} {cs : Scope} {a : Addr} {ccd : Value} {cl : List (Str × Addr)} {outer : List Env} {A₀ : Around} {base h₀ : Heap} {L : Addr} {m : Str → Option Value} {news rest : List (Addr × Obj)} {s : Shared} {Q E : Value → Shared → Prop}
set_option maxRecDepth 100000 in
set_option maxHeartbeats 2000000 in
theorem b2a_call {x y : UInt8} {tp : Tok} (C : Cx w p loose mean mg mb A₀ base outer h₀ L m s.heap news) (hk : cs.kind = .function) (hd : dp + 8 < recursionLimit) (hu : un + 40 < cLine)
  (hret : ∀ (h' : Heap) (tk tk' : Nat), s.toks < tk → tk < tk' → Cx w p loose mean mg mb A₀ base outer h₀ L m h' news → Q (.bytes (BM.b64 x y) tk) { s with heap := h', toks := tk' }) :
  wpAny (model PySem.Challenge.pw_ij0047_01 w) (ktrTop dp un gd cn cs L a ccd cl outer) (call (.ref 440) [.bytes #[x, y] tp] [(Str.ofString "newline", .bool false)]) Q E s := by
  obtain ⟨B, F, X, N, T, XB, TB⟩ := C
  refine wpAny_call ?_
  k_dflt cell_enter
  refine gt_up (Nat.le_add_right s.toks _) (fun tk0 htk0 => ?_)
  k_steps
  rename News _ _ _ _ => N1
  rename Fr _ _ _ _ => F1
  refine ⟨forX (hE := by passes_own) (wpAny_Name (wpAny_loadName_local rfl rfl F1.ns rfl ?_))⟩
  have C1 : Cx w p loose mean mg mb _ base _ _ _ _ _ _ := ⟨by assumption, F1, by assumption, N1, by assumption, XB, TB⟩
  refine bytes_start C1 fun I h2 oi2 ci2 di2 lt2 ne2 C2 => ⟨3, ?_⟩
  show wpAny _ _ (pyNext _) _ _ _
  refine bytes_next C2 ne2 ci2 di2 (c := x) rfl fun h3 oi3 ci3 di3 C3 => ?_
  dsimp only
  refine wpAny_pure ?_
  have F3 := C3.F
  have N3 := C3.N
  k_lt lt2
  clear C1 C2 C3 F1 N1
  refine wpAny_assign_Name ?_
  k_steps
  have hxl := x.toNat_lt
  have hyl := y.toNat_lt
  rw [B64.lc1, B64.idx1]
  refine ⟨KBy.item_N (by decide) (by omega) (by show ((x.toNat / 4 : Nat) : Int) < 64; omega) ?_⟩
  k_steps
  rename News _ _ _ _ => N4
  rename Fr _ _ _ _ => F4
  simp only [B64.lc1] at F4
  have C4 : Cx w p loose mean mg mb _ base _ _ _ _ _ _ := ⟨by assumption, F4, by assumption, N4, by assumption, XB, TB⟩
  show wpAny _ _ (pyNext _) _ _ _
  refine bytes_next C4 (List.forall_mem_cons.2 ⟨ne2 (_, W.listOf #[] 0) (.head _), fun q hq => ne2 q (.tail _ hq)⟩) ci3 di3 (c := y) rfl fun h5 oi5 ci5 di5 C5 => ?_
  dsimp only
  refine wpAny_pure ?_
  have F5 := C5.F
  have N5 := C5.N
  clear C4 C5 F4 N4
  refine wpAny_assign_Name ?_
  k_steps
  rw [B64.lc2, B64.idx2]
  refine ⟨KBy.item_N (by decide) (by omega) (by show (((x.toNat * 256 + y.toNat) / 16 % 64 : Nat) : Int) < 64; omega) ?_⟩
  k_steps
  rename News _ _ _ _ => N6
  rename Fr _ _ _ _ => F6
  simp only [B64.lc2] at F6
  have C6 : Cx w p loose mean mg mb _ base _ _ _ _ _ _ := ⟨by assumption, F6, by assumption, N6, by assumption, XB, TB⟩
  show wpAny _ _ (pyNext _) _ _ _
  refine bytes_end rfl C6 (List.forall_mem_cons.2 ⟨ne2 (_, W.listOf #[] 0) (.head _), fun q hq => ne2 q (.tail _ hq)⟩) ci5 di5 rfl fun h7 C7 => ?_
  have F7 := C7.F
  have N7 := C7.N
  clear C6 C7 F6 N6
  dsimp only
  k_steps
  rw [B64.idx3]
  refine ⟨KBy.item_N (by decide) (by omega) (by show (((x.toNat * 256 + y.toNat) % 16 * 4 : Nat) : Int) < 64; omega) ?_⟩
  k_steps
  rename News _ _ _ _ => N8
  rename Fr _ _ _ _ => F8
  have C8 : Cx w p loose mean mg mb _ base _ _ _ _ _ _ := ⟨by assumption, F8, by assumption, N8, by assumption, XB, TB⟩
  refine ⟨BM.bytes_of rfl ⟨_, (N8 _ (.head _)).1, rfl, _, rfl⟩ ?hv ?hz fun h9 hk9 => ?_⟩
  case hv =>
    intro v hv
    have hv' : v ∈ [_, _, _, _] := hv
    simp only [List.mem_cons, List.not_mem_nil, or_false] at hv'
    rcases hv' with rfl | rfl | rfl | rfl
    · exact ⟨_, _, rfl, Int.natCast_nonneg _, Int.ofNat_lt.2 (UInt8.toNat_lt _)⟩
    · exact ⟨_, _, rfl, Int.natCast_nonneg _, Int.ofNat_lt.2 (UInt8.toNat_lt _)⟩
    · exact ⟨_, _, rfl, Int.natCast_nonneg _, Int.ofNat_lt.2 (UInt8.toNat_lt _)⟩
    · exact ⟨_, _, rfl, by decide, by decide⟩
  case hz => show 4 ≤ sizeLine; rw [sizeLine_eq]; decide
  have C9 := C8.keepsH hk9
  have F9 := C9.F
  have N9 := C9.N
  clear C8 C9 F8 N8
  k_steps
  refine (congrArg (fun b => Q (Value.bytes b _) _) (BM.octs4 (x.toNat / 4) ((x.toNat * 256 + y.toNat) / 16 % 64) ((x.toNat * 256 + y.toNat) % 16 * 4) _ _ _ _)).mpr ?_
  exact hret _ _ _ (by kwd_inv) (by kwd_inv) (by kwd_rel)
end

section
variable {w : World} {p : Program} {loose : List Str} {mean : ExcName → Option Value} {mg mb : Str → Option Value} {dp un : Nat} {gd : Option (List Code)} {cn : Str} {cs : Scope} {a : Addr} {ccd : Value} {cl : List (Str × Addr)} {outer : List Env} {A₀ : Around} {base h₀ : Heap} {L : Addr} {m : Str → Option Value} {news rest : List (Addr × Obj)} {s : Shared} {Q E : Value → Shared → Prop}
noncomputable abbrev b64Fd (v : Value) (t : Str) : FuncData := fnOf (Str.ofString "b64encode") (Str.ofString "b64encode") (parOf (topSt 32)) (redocL t (sansDoc (bodyOf (topSt 32)))) (scOf (topSt 32)) (.ref 450) .none v (.str (Str.ofString "cpy313.base64") 1019) none (.ref 456) .none
set_option maxRecDepth 100000 in
set_option maxHeartbeats 4000000 in
theorem b64_binds {P : Params} {s : Shared} (X : (KM P).In s.heap) (x y : Value) (v : Value) (t : Str) : BindsTo s (b64Fd v t) ⟨[x, y], []⟩ [(Str.ofString "s", x), (Str.ofString "altchars", y)] := binds_K X rfl rfl rfl rfl rfl
theorem b64_enter {args : Args} {binds : List (Str × Value)} {R : Result → Shared → Prop} (C : Cx w p loose mean mg mb A₀ base outer h₀ L m s.heap news) (hD : Docs base) (hk : cs.kind = .function) (hd : dp < recursionLimit)
    (hbind : ∀ v t, BindsTo s (b64Fd v t) args binds) (hloc : ∀ y ∈ binds, (scOf (topSt 32)).names.lookup y.1 = some .local)
    (h : ∀ t g L' h₁, Fr h₀ L g m → Cx w p loose mean mg mb (ktrTop dp un gd cn cs L a ccd cl outer) base (envX cn cs L a ccd cl :: outer) g L' (fun y => binds.reverse.lookup y) h₁ news → (∀ q ∈ news, q.1 < L') →
      wpAny (model PySem.Challenge.pw_ij0047_01 w) ((ktrTop dp un gd cn cs L a ccd cl outer).deeper (envOf (Str.ofString "b64encode") (scOf (topSt 32)) L' 457 (.ref 456))) (execs (redocL t (sansDoc (bodyOf (topSt 32)))) (envOf (Str.ofString "b64encode") (scOf (topSt 32)) L' 457 (.ref 456)))
        (fun fl s' => LeaveK h₀ L m g R (match fl with | .ret v => v | _ => .none) s')
        (fun e s' => wpAny (model PySem.Challenge.pw_ij0047_01 w) ((ktrTop dp un gd cn cs L a ccd cl outer).deeper (envOf (Str.ofString "b64encode") (scOf (topSt 32)) L' 457 (.ref 456))) (leaving (envOf (Str.ofString "b64encode") (scOf (topSt 32)) L' 457 (.ref 456)) e) (fun _ s'' => R (.error e) s'') (fun e' s'' => R (.error e') s'') s')
        { s with heap := h₁, toks := s.toks + binds.length }) :
    codeAny (model PySem.Challenge.pw_ij0047_01 w) (ktrTop dp un gd cn cs L a ccd cl outer) (.call (.ref 457) args) R s := by
  obtain ⟨v, t, ho⟩ := (C.docs hD).b64
  exact callX_plain (cl := []) C.B C.F C.N C.T.nolimit rfl rfl hk ho rfl (codeRec_of (C.X.keeps C.F.keep) rfl) hd (hbind v t) hloc (fun g L' h₁ FG F' N' B' st lt => h t g L' h₁ FG ⟨B', F', C.X.keeps st, N', C.T.keeps st, C.XB, C.TB⟩ lt) (by decide) rfl rfl rfl
theorem mt_find (P : Params) : findCls (KM P) (.type "bytes") (.type "type") (Str.ofString "maketrans") = some (.val (.builtin "bytes.maketrans")) := by kernel_rfl
theorem stub_bytes : Manifest.isStub "bytes" = false := by decide +kernel
theorem hand_mt : handedIn (.builtin "bytes.maketrans") = true := by decide +kernel
theorem ty_bytes : typeOf (.type "bytes") = pure (.type "type") := by first | rfl | kernel_rfl
set_option maxRecDepth 100000 in
set_option maxHeartbeats 2000000 in
theorem b64e_call {x y a1 a2 : UInt8} {tp ta : Tok} (C : Cx w p loose mean mg mb A₀ base outer h₀ L m s.heap news) (hD : Docs base) (hk : cs.kind = .function) (hd : dp + 20 < recursionLimit) (hu : un + 100 < cLine)
  (hret : ∀ (h' : Heap) (tk tk' : Nat), s.toks < tk → tk < tk' → Cx w p loose mean mg mb A₀ base outer h₀ L m h' news → Q (.bytes ((BM.b64 x y).map (BM.tr a1 a2)) tk) { s with heap := h', toks := tk' }) :
  wpAny (model PySem.Challenge.pw_ij0047_01 w) (ktrTop dp un gd cn cs L a ccd cl outer) (call (.ref 457) [.bytes #[x, y] tp, .bytes #[a1, a2] ta]) Q E s := by
  have B0 := C.B
  have X0 := C.X
  have T0 := C.T
  refine wpAny_call (b64_enter C hD hk (by omega) (fun v t => b64_binds (C.X.keeps C.F.keep) _ _ v t) (locs rfl) ?_)
  intro t g L' h₁ FG C' lt
  have XB := C'.XB
  have TB := C'.TB
  have B := C'.B
  have T := C'.T
  have X := C'.X
  have N := C'.N
  have F := C'.F
  clear C'
  refine gt_up (Nat.le_add_right s.toks _) (fun tk0 htk0 => ?_)
  clear C
  k_lt lt
  k_steps
  rename News _ _ _ _ => N1
  rename Fr _ _ _ _ => F1
  have C1 : Cx w p loose mean mg mb _ base _ g L' _ _ _ := ⟨B, F1, X, N1, T, XB, TB⟩
  refine ⟨?_⟩
  show wpAny _ _ (call (Value.ref 440) [_] [(Str.ofString "newline", .bool false)]) _ _ _
  refine b2a_call C1 rfl (by ktr_room) (by ktr_units) fun h2 tk2 tk2' l2 l2' C2 => ?_
  have F2 := C2.F
  have N2 := C2.N
  clear C1 C2 F1 N1
  dsimp only at l2
  k_steps
  rotate_left
  exact absurd (show ((#[a1, a2] : Array UInt8).size : Int) = 2 from rfl) (by assumption)
  have mf := mt_find w.params
  rename News _ _ _ _ => N3
  rename Fr _ _ _ _ => F3
  with_reducible refine method_type F3 X ty_bytes stub_bytes mf hand_mt ?_
  k_steps
  have em : (BM.b64 x y).map (BM.tr a1 a2) = #[BM.tr a1 a2 (BM.sx (x.toNat / 4)), BM.tr a1 a2 (BM.sx ((x.toNat * 256 + y.toNat) / 16 % 64)), BM.tr a1 a2 (BM.sx ((x.toNat * 256 + y.toNat) % 16 * 4)), BM.tr a1 a2 61] := by simp [BM.b64]
  rw [em] at hret
  refine ⟨?_⟩
  show wpAny _ _ (call (Value.builtin "bytes.translate") [.bytes #[BM.sx (x.toNat / 4), BM.sx ((x.toNat * 256 + y.toNat) / 16 % 64), BM.sx ((x.toNat * 256 + y.toNat) % 16 * 4), 61] _, _]) _ _ _
  refine BM.call_tr fun tk k htk' => ?_
  dsimp only at htk'
  k_steps
  exact hret _ _ _ (by rcases htk' with ⟨rfl, rfl⟩ | ⟨rfl, rfl⟩ <;> kwd_inv) (by rcases htk' with ⟨rfl, rfl⟩ | ⟨rfl, rfl⟩ <;> kwd_inv) (by kwd_rel)
end

namespace OO
open Builtin
theorem ord_cons (a b : UInt8) (as bs : List UInt8) : (Bytes.order (a :: as) (b :: bs) == .lt) = (decide (a.toNat < b.toNat) || (decide (a.toNat = b.toNat) && (Bytes.order as bs == .lt))) := by
  show ((if a < b then Ordering.lt else if a > b then Ordering.gt else Bytes.order as bs) == .lt) = _
  by_cases h : a < b
  · have h' : a.toNat < b.toNat := h
    rw [if_pos h, decide_eq_true h']; rfl
  · have h' : ¬ a.toNat < b.toNat := h
    rw [if_neg h, decide_eq_false h', Bool.false_or]
    by_cases g : a > b
    · have g' : b.toNat < a.toNat := g
      rw [if_pos g, decide_eq_false (by omega)]; rfl
    · have g' : ¬ b.toNat < a.toNat := g
      rw [if_neg g, decide_eq_true (by omega), Bool.true_and]
theorem ord_nil : (Bytes.order [] [] == .lt) = false := rfl
/-- a number's two octets -/
noncomputable def hi (a : Nat) : UInt8 := (a / 256).toUInt8
noncomputable def lo (a : Nat) : UInt8 := (a % 256).toUInt8
theorem hi_nat {a : Nat} (h : a < 65536) : (hi a).toNat = a / 256 := by unfold hi; rw [UInt8.toNat_ofNat']; exact Ar.hi8 h
theorem lo_nat (a : Nat) : (lo a).toNat = a % 256 := by unfold lo; rw [UInt8.toNat_ofNat']; exact Ar.lo8 a
theorem lex (a b k : Nat) : (a / k < b / k ∨ a / k = b / k ∧ a % k < b % k) ↔ a < b := by
  have e1 := Nat.div_add_mod a k
  have e2 := Nat.div_add_mod b k
  constructor
  · rintro (h | ⟨h, g⟩)
    · exact Nat.lt_of_not_le fun c => absurd h (Nat.not_lt.2 (Nat.div_le_div_right c))
    · rw [← e1, ← e2, h]; exact Nat.add_lt_add_left g _
  · intro h
    rcases Nat.lt_or_eq_of_le (Nat.div_le_div_right (c := k) (Nat.le_of_lt h)) with g | g
    · exact .inl g
    · refine .inr ⟨g, ?_⟩
      rw [← e1, ← e2, g] at h
      exact Nat.lt_of_add_lt_add_left h
theorem pair_lt {a b : Nat} (ha : a < 65536) (hb : b < 65536) : bl #[hi a, lo a] #[hi b, lo b] = decide (a < b) := by
  unfold bl
  show (Bytes.order [hi a, lo a] [hi b, lo b] == .lt) = _
  rw [ord_cons, ord_cons, ord_nil, hi_nat ha, hi_nat hb, lo_nat, lo_nat, Bool.and_false, Bool.or_false]
  simp only [← Bool.decide_and, ← Bool.decide_or]
  exact decide_eq_decide.2 (lex a b 256)
noncomputable def hx (n : Nat) : UInt8 := Bytes.toUpper (BB.hexd n).toUInt8
theorem hx_nat : ∀ n, n < 16 → (hx n).toNat = if n < 10 then 48 + n else 55 + n := by decide +kernel
theorem hx_lt0 : ∀ m, m < 16 → ∀ n, n < 16 → (((hx m).toNat < (hx n).toNat) ↔ m < n) := by decide +kernel
theorem hx_eq0 : ∀ m, m < 16 → ∀ n, n < 16 → (((hx m).toNat = (hx n).toNat) ↔ m = n) := by decide +kernel
theorem hx_lt {m n : Nat} (hm : m < 16) (hn : n < 16) : ((hx m).toNat < (hx n).toNat) ↔ m < n := hx_lt0 m hm n hn
theorem hx_eq {m n : Nat} (hm : m < 16) (hn : n < 16) : ((hx m).toNat = (hx n).toNat) ↔ m = n := hx_eq0 m hm n hn
theorem q16 {a : Nat} (h : a < 65536) : a / 256 / 16 < 16 := Nat.div_lt_of_lt_mul (Nat.div_lt_of_lt_mul h)
theorem m16 (a : Nat) : a % 256 / 16 < 16 := Nat.div_lt_of_lt_mul (Nat.mod_lt _ (by decide))
theorem r16 (a : Nat) : a % 16 < 16 := Nat.mod_lt _ (by decide)
theorem b16_lt {a b : Nat} (ha : a < 65536) (hb : b < 65536) : bl (BB.b16 (hi a) (lo a)) (BB.b16 (hi b) (lo b)) = decide (a < b) := by
  unfold bl
  show (Bytes.order [hx ((hi a).toNat / 16), hx ((hi a).toNat % 16), hx ((lo a).toNat / 16), hx ((lo a).toNat % 16)] [hx ((hi b).toNat / 16), hx ((hi b).toNat % 16), hx ((lo b).toNat / 16), hx ((lo b).toNat % 16)] == .lt) = _
  rw [hi_nat ha, hi_nat hb, lo_nat, lo_nat, ord_cons, ord_cons, ord_cons, ord_cons, ord_nil, Bool.and_false, Bool.or_false]
  simp only [← Bool.decide_and, ← Bool.decide_or]
  refine decide_eq_decide.2 ?_
  rw [hx_lt (q16 ha) (q16 hb), hx_eq (q16 ha) (q16 hb), hx_lt (r16 _) (r16 _), hx_eq (r16 _) (r16 _), hx_lt (m16 a) (m16 b), hx_eq (m16 a) (m16 b), hx_lt (r16 _) (r16 _)]
  rw [lex (a % 256) (b % 256) 16]
  refine Iff.trans ?_ (lex a b 256)
  rw [← lex (a / 256) (b / 256) 16]
  constructor
  · rintro (h | ⟨h, g | ⟨g, k⟩⟩)
    · exact .inl (.inl h)
    · exact .inl (.inr ⟨h, g⟩)
    · refine .inr ⟨?_, k⟩
      rw [← Nat.div_add_mod (a / 256) 16, h, g, Nat.div_add_mod]
  · rintro ((h | ⟨h, g⟩) | ⟨h, k⟩)
    · exact .inl h
    · exact .inr ⟨h, .inl g⟩
    · rw [h]; exact .inr ⟨rfl, .inr ⟨rfl, k⟩⟩
/-- the sign of six bits -/
noncomputable def sg (a1 a2 : UInt8) (v : Nat) : UInt8 := BM.tr a1 a2 (BM.sx v)
noncomputable def ahead (a1 a2 : UInt8) (a b : Nat) : Bool :=
  if a ^^^ b ≥ 1024 then decide ((sg a1 a2 (a / 1024)).toNat < (sg a1 a2 (b / 1024)).toNat)
  else if a ^^^ b ≥ 16 then decide ((sg a1 a2 (a / 16 % 64)).toNat < (sg a1 a2 (b / 16 % 64)).toNat)
  else decide ((sg a1 a2 (a % 16 * 4)).toNat < (sg a1 a2 (b % 16 * 4)).toNat)
theorem xor_ge (a b k : Nat) : a ^^^ b ≥ 2 ^ k ↔ a / 2 ^ k ≠ b / 2 ^ k := by
  have h : (a ^^^ b) / 2 ^ k = a / 2 ^ k ^^^ b / 2 ^ k := by
    rw [← Nat.shiftRight_eq_div_pow, ← Nat.shiftRight_eq_div_pow, ← Nat.shiftRight_eq_div_pow, Nat.shiftRight_xor_distrib]
  have hp : 0 < 2 ^ k := Nat.two_pow_pos k
  constructor
  · intro g e
    rw [e, Nat.xor_self] at h
    have := (Nat.div_eq_zero_iff).1 h
    omega
  · intro g
    refine Nat.not_lt.1 fun hc => g ?_
    rw [Nat.div_eq_of_lt hc] at h
    have e := congrArg (· ^^^ (b / 2 ^ k)) h.symm
    simpa [Nat.xor_assoc] using e
theorem long_lt {a1 a2 : UInt8} (inj : ∀ u v, u < 64 → v < 64 → (sg a1 a2 u).toNat = (sg a1 a2 v).toNat → u = v) {a b : Nat} (ha : a < 65536) (hb : b < 65536) :
    bl ((BM.b64 (hi a) (lo a)).map (BM.tr a1 a2)) ((BM.b64 (hi b) (lo b)).map (BM.tr a1 a2)) = ahead a1 a2 a b := by
  have em : ∀ c : Nat, c < 65536 → ((BM.b64 (hi c) (lo c)).map (BM.tr a1 a2)).toList = [sg a1 a2 (c / 1024), sg a1 a2 (c / 16 % 64), sg a1 a2 (c % 16 * 4), BM.tr a1 a2 61] := fun c hc => by
    simp only [BM.b64, hi_nat hc, lo_nat, Array.toList_map, List.map_cons, List.map_nil]
    have e1 : c / 256 / 4 = c / 1024 := Nat.div_div_eq_div_mul c 256 4
    have e2 : (c / 256 * 256 + c % 256) = c := Nat.div_add_mod' c 256
    rw [e1, e2]; rfl
  unfold bl
  rw [em a ha, em b hb, ord_cons, ord_cons, ord_cons, ord_cons, ord_nil, Bool.and_false, Bool.or_false, decide_eq_false (Nat.lt_irrefl _), Bool.and_false, Bool.or_false]
  unfold ahead
  have x1 := xor_ge a b 10
  have x2 := xor_ge a b 4
  have i1 : (sg a1 a2 (a / 1024)).toNat = (sg a1 a2 (b / 1024)).toNat ↔ a / 1024 = b / 1024 := ⟨inj _ _ (Nat.div_lt_of_lt_mul ha) (Nat.div_lt_of_lt_mul hb), fun e => by rw [e]⟩
  have i2 : (sg a1 a2 (a / 16 % 64)).toNat = (sg a1 a2 (b / 16 % 64)).toNat ↔ a / 16 % 64 = b / 16 % 64 := ⟨inj _ _ (Nat.mod_lt _ (by decide)) (Nat.mod_lt _ (by decide)), fun e => by rw [e]⟩
  split
  · rename_i h
    have hne := x1.1 h
    rw [decide_eq_false (fun e => hne (i1.1 e)), Bool.false_and, Bool.or_false]
  · rename_i h
    have heq : a / 1024 = b / 1024 := Classical.byContradiction fun e => h (x1.2 e)
    rw [heq, decide_eq_false (Nat.lt_irrefl _), decide_eq_true rfl, Bool.false_or, Bool.true_and]
    split
    · rename_i g
      have hne := x2.1 g
      have hne2 : ¬ a / 16 % 64 = b / 16 % 64 := fun e => hne (by rw [← Nat.div_add_mod (a / 16) 64, ← Nat.div_add_mod (b / 16) 64, e, Nat.div_div_eq_div_mul, Nat.div_div_eq_div_mul, heq])
      rw [decide_eq_false (fun e => hne2 (i2.1 e)), Bool.false_and, Bool.or_false]
    · rename_i g
      have heq2 : a / 16 = b / 16 := Classical.byContradiction fun e => g (x2.2 e)
      rw [heq2, decide_eq_false (Nat.lt_irrefl _), decide_eq_true rfl, Bool.false_or, Bool.true_and]
/-- no sign of the alphabet's letters and figures -/
noncomputable def NA (n : Nat) : Prop := n < 48 ∨ (57 < n ∧ n < 65) ∨ (90 < n ∧ n < 97) ∨ 122 < n
theorem sx_low : ∀ v, v < 62 → BM.sx v ≠ 47 ∧ BM.sx v ≠ 43 ∧ (BM.sx v).toNat = if v < 26 then 65 + v else if v < 52 then 71 + v else v - 4 := by decide +kernel
theorem six_cases {v : Nat} (h : v < 64) : v < 62 ∨ v = 62 ∨ v = 63 := by
  rcases Nat.lt_or_eq_of_le (Nat.le_of_lt_succ h) with g | g
  · exact (Nat.lt_or_eq_of_le (Nat.le_of_lt_succ g)).imp id .inl
  · exact .inr (.inr g)
theorem sg_nat (a1 a2 : UInt8) {v : Nat} (hv : v < 64) : (sg a1 a2 v).toNat = if v < 26 then 65 + v else if v < 52 then 71 + v else if v < 62 then v - 4 else if v = 62 then a1.toNat else a2.toNat := by
  by_cases h : v < 62
  · obtain ⟨n1, n2, e⟩ := sx_low v h
    unfold sg BM.tr
    rw [if_neg n1, if_neg n2, e]
    simp only [h, if_true]
  · rcases (six_cases hv).resolve_left h with rfl | rfl
    · show (BM.tr a1 a2 43).toNat = _
      unfold BM.tr; simp
    · show (BM.tr a1 a2 47).toNat = _
      unfold BM.tr; simp
noncomputable def lowS (v : Nat) : Nat := if v < 26 then 65 + v else if v < 52 then 71 + v else v - 4
theorem sg_lo (a1 a2 : UInt8) {v : Nat} (hv : v < 64) (h : (v : Int) < 26) : ((sg a1 a2 v).toNat : Int) = 65 + (v : Int) := by
  rw [sg_nat a1 a2 hv, if_pos (Int.ofNat_lt.1 h)]; rfl
theorem sg_mid (a1 a2 : UInt8) {v : Nat} (hv : v < 64) (h : ¬ (v : Int) < 26) (k : (v : Int) < 52) : ((sg a1 a2 v).toNat : Int) = 71 + (v : Int) := by
  rw [sg_nat a1 a2 hv, if_neg (mt Int.ofNat_lt.2 h), if_pos (Int.ofNat_lt.1 k)]; rfl
theorem sg_dig (a1 a2 : UInt8) {v : Nat} (hv : v < 64) (h : ¬ (v : Int) < 52) (k : (v : Int) < 62) : ((sg a1 a2 v).toNat : Int) = (v : Int) - 4 := by
  have h' : ¬ v < 52 := mt Int.ofNat_lt.2 h
  have h4 : 4 ≤ v := Nat.le_trans (by decide) (Nat.le_of_not_lt h')
  rw [sg_nat a1 a2 hv, if_neg (fun q => h' (Nat.lt_trans q (by decide))), if_neg h', if_pos (Int.ofNat_lt.1 k)]
  exact Int.ofNat_sub h4
theorem lowS_inj : ∀ u, u < 62 → ∀ v, v < 62 → lowS u = lowS v → u = v := by decide +kernel
theorem lowS_na : ∀ u, u < 62 → ¬ NA (lowS u) := by unfold NA; decide +kernel
theorem sg_low (a1 a2 : UInt8) {v : Nat} (h : v < 62) : (sg a1 a2 v).toNat = lowS v := by
  obtain ⟨n1, n2, e⟩ := sx_low v h
  unfold sg BM.tr
  rw [if_neg n1, if_neg n2, e]; rfl
theorem sg_62 (a1 a2 : UInt8) : sg a1 a2 62 = a1 := by show BM.tr a1 a2 43 = _; unfold BM.tr; simp
theorem sg_63 (a1 a2 : UInt8) : sg a1 a2 63 = a2 := by show BM.tr a1 a2 47 = _; unfold BM.tr; simp
theorem sg_inj {a1 a2 : UInt8} (h1 : NA a1.toNat) (h2 : NA a2.toNat) (hne : a1.toNat ≠ a2.toNat) (u v : Nat) (hu : u < 64) (hv : v < 64) (e : (sg a1 a2 u).toNat = (sg a1 a2 v).toNat) : u = v := by
  rcases six_cases hu with a | rfl | rfl <;> rcases six_cases hv with b | rfl | rfl
  · rw [sg_low a1 a2 a, sg_low a1 a2 b] at e; exact lowS_inj u a v b e
  · rw [sg_low a1 a2 a, sg_62] at e; exact absurd (e ▸ h1) (lowS_na u a)
  · rw [sg_low a1 a2 a, sg_63] at e; exact absurd (e ▸ h2) (lowS_na u a)
  · rw [sg_low a1 a2 b, sg_62] at e; exact absurd (e ▸ h1) (lowS_na v b)
  · rfl
  · rw [sg_62, sg_63] at e; exact absurd e hne
  · rw [sg_low a1 a2 b, sg_63] at e; exact absurd (e ▸ h2) (lowS_na v b)
  · rw [sg_62, sg_63] at e; exact absurd e.symm hne
  · rfl
noncomputable def marks : List Nat := [43, 47, 45, 95, 58, 64, 126, 33, 200]
noncomputable def alt1 (h : Int) : Nat := marks.getD (h.fmod 9).toNat 0
noncomputable def alt2 (h : Int) : Nat := marks.getD ((h.fmod 9 + 1 + (h.fdiv 9).fmod 8).fmod 9).toNat 0
theorem marks_ok : ∀ i, i < 9 → marks.getD i 0 < 256 ∧ NA (marks.getD i 0) := by unfold NA; decide +kernel
theorem marks_ne : ∀ i, i < 9 → ∀ k, k < 8 → marks.getD i 0 ≠ marks.getD ((i + 1 + k) % 9) 0 := by decide +kernel
theorem alts_ok (h : Int) : alt1 h < 256 ∧ alt2 h < 256 ∧ NA (alt1 h) ∧ NA (alt2 h) ∧ alt1 h ≠ alt2 h := by
  have f1 := Int.fmod_nonneg_of_pos h (b := 9) (by decide)
  have f2 := Int.fmod_lt_of_pos h (b := 9) (by decide)
  have g1 := Int.fmod_nonneg_of_pos (h.fdiv 9) (b := 8) (by decide)
  have g2 := Int.fmod_lt_of_pos (h.fdiv 9) (b := 8) (by decide)
  obtain ⟨i, hi⟩ := Int.eq_ofNat_of_zero_le f1
  obtain ⟨k, hk⟩ := Int.eq_ofNat_of_zero_le g1
  have e1 : alt1 h = marks.getD i 0 := by unfold alt1; rw [hi]; rfl
  have e2 : alt2 h = marks.getD ((i + 1 + k) % 9) 0 := by
    unfold alt2
    rw [hi, hk]
    have : ((i : Int) + 1 + (k : Int)).fmod 9 = (((i + 1 + k) % 9 : Nat) : Int) := by
      rw [Int.fmod_eq_emod_of_nonneg _ (by decide)]; push_cast; rfl
    rw [this]; rfl
  rw [e1, e2]
  have hi9 : i < 9 := by omega
  have hk8 : k < 8 := by omega
  exact ⟨(marks_ok i hi9).1, (marks_ok _ (Nat.mod_lt _ (by decide))).1, (marks_ok i hi9).2, (marks_ok _ (Nat.mod_lt _ (by decide))).2, marks_ne i hi9 k hk8⟩
theorem ahead1 {a1 a2 : UInt8} {x y : Nat} (h : (1024 : Int) ≤ Builtin.bitXor (x : Int) (y : Int)) : ahead a1 a2 x y = decide (((sg a1 a2 (x / 1024)).toNat : Int) < ((sg a1 a2 (y / 1024)).toNat : Int)) := by
  rw [B64.xor_nat] at h
  unfold ahead
  rw [if_pos (by omega)]
  exact decide_eq_decide.2 (by omega)
theorem ahead2 {a1 a2 : UInt8} {x y : Nat} (h : ¬ (1024 : Int) ≤ Builtin.bitXor (x : Int) (y : Int)) (h' : (16 : Int) ≤ Builtin.bitXor (x : Int) (y : Int)) : ahead a1 a2 x y = decide (((sg a1 a2 (x / 16 % 64)).toNat : Int) < ((sg a1 a2 (y / 16 % 64)).toNat : Int)) := by
  rw [B64.xor_nat] at h h'
  unfold ahead
  rw [if_neg (by omega), if_pos (by omega)]
  exact decide_eq_decide.2 (by omega)
theorem ahead3 {a1 a2 : UInt8} {x y : Nat} (h : ¬ (1024 : Int) ≤ Builtin.bitXor (x : Int) (y : Int)) (h' : ¬ (16 : Int) ≤ Builtin.bitXor (x : Int) (y : Int)) : ahead a1 a2 x y = decide (((sg a1 a2 (x % 16 * 4)).toNat : Int) < ((sg a1 a2 (y % 16 * 4)).toNat : Int)) := by
  rw [B64.xor_nat] at h h'
  unfold ahead
  rw [if_neg (by omega), if_neg (by omega)]
  exact decide_eq_decide.2 (by omega)
end OO

namespace OO
noncomputable def addNew (ns : List Nat) (x : Int) : List Nat := if (x.fmod 65536).toNat ∈ ns then ns else ns ++ [(x.fmod 65536).toNat]
noncomputable def numbersOf (script : List Int) : List Nat := ((script.drop 1).take 10).foldl addNew [64000, 775, 27000]
structure Good (k : Nat) (ns : List Nat) : Prop where
  nodup : ns.Nodup
  lt : ∀ a ∈ ns, a < 65536
  ge : 3 ≤ ns.length
  le : ns.length ≤ k
theorem Good.add {k : Nat} {ns : List Nat} (G : Good k ns) (x : Int) : Good (k + 1) (addNew ns x) := by
  have f1 := Int.fmod_nonneg_of_pos x (b := 65536) (by decide)
  have f2 := Int.fmod_lt_of_pos x (b := 65536) (by decide)
  unfold addNew
  split
  · exact ⟨G.nodup, G.lt, G.ge, Nat.le_succ_of_le G.le⟩
  · rename_i h
    refine ⟨?_, ?_, ?_, ?_⟩
    · rw [List.nodup_append]
      exact ⟨G.nodup, by simp, fun a ha b hb e => h (by simp at hb; rw [← hb, ← e]; exact ha)⟩
    · intro a ha
      rw [List.mem_append] at ha
      rcases ha with ha | ha
      · exact G.lt a ha
      · simp at ha; omega
    · rw [List.length_append]; have := G.ge; omega
    · rw [List.length_append]; have := G.le; simp; omega
theorem good_fold : ∀ (xs : List Int) (k : Nat) (ns : List Nat), Good k ns → Good (k + xs.length) (xs.foldl addNew ns)
  | [], k, ns, G => G
  | x :: xs, k, ns, G => by
    have h := good_fold xs (k + 1) (addNew ns x) (G.add x)
    rw [List.foldl_cons, List.length_cons]
    have e : k + (xs.length + 1) = k + 1 + xs.length := by omega
    rw [e]; exact h
theorem good_numbers (script : List Int) : Good 13 (numbersOf script) := by
  have h := good_fold ((script.drop 1).take 10) 3 [64000, 775, 27000] ⟨by decide, by decide, by decide, by decide⟩
  have hl : ((script.drop 1).take 10).length ≤ 10 := by rw [List.length_take]; exact Nat.min_le_left _ _
  exact ⟨h.nodup, h.lt, h.ge, Nat.le_trans h.le (by omega)⟩
theorem count_range (ns : List Nat) (q : Nat → Bool) : (List.range ns.length).countP (fun j => q (ns.getD j 0)) = ns.countP q := by
  have e : ns = (List.range ns.length).map (fun j => ns.getD j 0) := by
    apply List.ext_getElem
    · simp
    · intro i h1 h2
      simp [List.getD, List.getElem?_eq_getElem h1]
  conv => rhs; rw [e]
  rw [List.countP_map]; rfl
theorem at_lt {ns : List Nat} {k : Nat} (G : Good k ns) {i : Nat} (hi : i < ns.length) : ns.getD i 0 < 65536 := by
  rw [List.getD, List.getElem?_eq_getElem hi]
  exact G.lt _ (List.getElem_mem hi)
theorem at_inj {ns : List Nat} {k : Nat} (G : Good k ns) {i j : Nat} (hi : i < ns.length) (hj : j < ns.length) (e : ns.getD i 0 = ns.getD j 0) : i = j := by
  rw [List.getD, List.getElem?_eq_getElem hi, List.getD, List.getElem?_eq_getElem hj] at e
  exact (List.getElem_inj G.nodup).1 e
/-- the places, counted by a key whose order is lt -/
theorem rk_count {ns : List Nat} {k : Nat} (G : Good k ns) {key : Nat → Array UInt8} {lt : Nat → Nat → Bool} (hk : ∀ a b, a < 65536 → b < 65536 → bl (key a) (key b) = lt a b) {i : Nat} (hi : i < ns.length) :
    rk ns.length (fun j => key (ns.getD j 0)) i = ns.countP (fun b => lt b (ns.getD i 0)) := by
  unfold rk
  rw [← count_range ns (fun b => lt b (ns.getD i 0))]
  refine List.countP_congr fun j hj => ?_
  have hj' := List.mem_range.1 hj
  rw [hk _ _ (at_lt G hj') (at_lt G hi)]
/-- keys whose order is irreflexive and total are unlike -/
theorem key_inj {ns : List Nat} {k : Nat} (G : Good k ns) {key : Nat → Array UInt8} {f : Array UInt8 → Nat} (hk : ∀ a, a < 65536 → f (key a) = a) (i j : Nat) (hi : i < ns.length) (hj : j < ns.length) (e : key (ns.getD i 0) = key (ns.getD j 0)) : i = j := by
  refine at_inj G hi hj ?_
  rw [← hk _ (at_lt G hi), ← hk _ (at_lt G hj), e]
theorem key_unlike {ns : List Nat} {k : Nat} (G : Good k ns) {key : Nat → Array UInt8} (hk : ∀ a b, a < 65536 → b < 65536 → key a = key b → a = b) (i j : Nat) (hi : i < ns.length) (hj : j < ns.length) (e : key (ns.getD i 0) = key (ns.getD j 0)) : i = j :=
  at_inj G hi hj (hk _ _ (at_lt G hi) (at_lt G hj) e)
theorem pair_unlike (a b : Nat) (ha : a < 65536) (hb : b < 65536) (e : (#[hi a, lo a] : Array UInt8) = #[hi b, lo b]) : a = b := by
  have h1 := pair_lt ha hb
  have h2 := pair_lt hb ha
  rw [e, bl_irrefl] at h1
  rw [e, bl_irrefl] at h2
  have h1' := of_decide_eq_false h1.symm
  have h2' := of_decide_eq_false h2.symm
  omega
theorem b16_unlike (a b : Nat) (ha : a < 65536) (hb : b < 65536) (e : BB.b16 (hi a) (lo a) = BB.b16 (hi b) (lo b)) : a = b := by
  have h1 := b16_lt ha hb
  have h2 := b16_lt hb ha
  rw [e, bl_irrefl] at h1
  rw [e, bl_irrefl] at h2
  have h1' := of_decide_eq_false h1.symm
  have h2' := of_decide_eq_false h2.symm
  omega
theorem long_unlike {a1 a2 : UInt8} (inj : ∀ u v, u < 64 → v < 64 → (sg a1 a2 u).toNat = (sg a1 a2 v).toNat → u = v) (a b : Nat) (ha : a < 65536) (hb : b < 65536) (e : (BM.b64 (hi a) (lo a)).map (BM.tr a1 a2) = (BM.b64 (hi b) (lo b)).map (BM.tr a1 a2)) : a = b := by
  have em : ∀ c : Nat, c < 65536 → ((BM.b64 (hi c) (lo c)).map (BM.tr a1 a2)).toList = [sg a1 a2 (c / 1024), sg a1 a2 (c / 16 % 64), sg a1 a2 (c % 16 * 4), BM.tr a1 a2 61] := fun c hc => by
    simp only [BM.b64, hi_nat hc, lo_nat, Array.toList_map, List.map_cons, List.map_nil]
    rw [Ar.q4, Ar.q5]; rfl
  have e' := congrArg Array.toList e
  rw [em a ha, em b hb] at e'
  simp only [List.cons.injEq, and_true] at e'
  obtain ⟨e1, e2, e3⟩ := e'
  exact Ar.digits (inj _ _ (Ar.q1 ha) (Ar.q1 hb) (congrArg UInt8.toNat e1)) (inj _ _ (Ar.q2 a) (Ar.q2 b) (congrArg UInt8.toNat e2)) (inj _ _ (Ar.q3 a) (Ar.q3 b) (congrArg UInt8.toNat e3))
end OO

section
variable {w : World} {p : Program} {loose : List Str} {mean : ExcName → Option Value} {mg mb : Str → Option Value} {dp un : Nat} {gd : Option (List Code)} {cn : Str} {cs : Scope} {a : Addr} {ccd : Value} {cl : List (Str × Addr)} {outer : List Env} {A₀ : Around} {base h₀ : Heap} {L : Addr} {m : Str → Option Value} {news rest : List (Addr × Obj)} {s : Shared} {Q E : Value → Shared → Prop}
set_option maxRecDepth 100000 in
set_option maxHeartbeats 2000000 in
theorem sign_call {v : Nat} {a1 a2 : UInt8} {tv ta : Tok} (hv : v < 64) (C : Cx w p loose mean mg mb A₀ base outer h₀ L m s.heap news) (hk : cs.kind = .function) (hd : dp + 8 < recursionLimit) (hu : un + 40 < cLine)
  (hret : ∀ (h' : Heap) (tk tk' : Nat), Cx w p loose mean mg mb A₀ base outer h₀ L m h' news → Q (.int ((OO.sg a1 a2 v).toNat : Int) tk) { s with heap := h', toks := tk' }) :
  wpAny (model PySem.Challenge.pw_ij0047_01 w) (ktrTop dp un gd cn cs L a ccd cl outer) (call (.ref 478) [.int (v : Int) tv, .bytes #[a1, a2] ta]) Q E s := by
  have hsg := OO.sg_nat a1 a2 hv
  obtain ⟨B, F, X, N, T, XB, TB⟩ := C
  refine wpAny_call ?_
  k_dflt cell_enter
  refine gt_up (Nat.le_add_right s.toks _) (fun tk0 htk0 => ?_)
  k_steps
  · refine (congrArg (fun n => Q (Value.int n _) _) ?_).mp (hret _ _ _ (by kwd_rel))
    exact OO.sg_lo a1 a2 hv (by assumption)
  · refine (congrArg (fun n => Q (Value.int n _) _) ?_).mp (hret _ _ _ (by kwd_rel))
    exact OO.sg_mid a1 a2 hv (by assumption) (by assumption)
  · refine (congrArg (fun n => Q (Value.int n _) _) ?_).mp (hret _ _ _ (by kwd_rel))
    exact OO.sg_dig a1 a2 hv (by assumption) (by assumption)
  · have b62 := Ar.v62b hv (by assumption)
    refine ⟨KBy.item_N (show (2 : Nat) ≤ 1099511627776 by decide) b62.1 b62.2 ?_⟩
    k_steps
    refine (congrArg (fun n => Q (Value.int n _) _) ?_).mp (hret _ _ _ (by kwd_rel))
    have hv2 : v = 62 ∨ v = 63 := Ar.v62 hv (by assumption)
    rcases hv2 with rfl | rfl
    · rw [hsg]; rfl
    · rw [hsg]; rfl
set_option maxRecDepth 100000 in
set_option maxHeartbeats 2000000 in
theorem ahead_call {x y : Nat} {a1 a2 : UInt8} {tx ty ta : Tok} (hx : x < 65536) (hy : y < 65536) (C : Cx w p loose mean mg mb A₀ base outer h₀ L m s.heap news) (hk : cs.kind = .function) (hd : dp + 16 < recursionLimit) (hu : un + 80 < cLine)
  (hret : ∀ (h' : Heap) (tk' : Nat), Cx w p loose mean mg mb A₀ base outer h₀ L m h' news → Q (.bool (OO.ahead a1 a2 x y)) { s with heap := h', toks := tk' }) :
  wpAny (model PySem.Challenge.pw_ij0047_01 w) (ktrTop dp un gd cn cs L a ccd cl outer) (call (.ref 492) [.int (x : Int) tx, .int (y : Int) ty, .bytes #[a1, a2] ta]) Q E s := by
  obtain ⟨mx1, mx2⟩ := Ar.m16 x
  obtain ⟨my1, my2⟩ := Ar.m16 y
  obtain ⟨B, F, X, N, T, XB, TB⟩ := C
  refine wpAny_call ?_
  k_dflt cell_enter
  refine gt_up (Nat.le_add_right s.toks _) (fun tk0 htk0 => ?_)
  k_steps
  · rename News _ _ _ _ => N1
    rename Fr _ _ _ _ => F1
    have C1 : Cx w p loose mean mg mb _ base _ _ _ _ _ _ := ⟨by assumption, F1, by assumption, N1, by assumption, XB, TB⟩
    rw [B64.e1024]
    refine ⟨sign_call (Ar.q1 hx) C1 rfl (by ktr_room) (by ktr_units) fun h2 tk2 tk2' C2 => ?_⟩
    have F2 := C2.F
    have N2 := C2.N
    clear C1 C2 F1 N1
    k_steps
    rename News _ _ _ _ => N3
    rename Fr _ _ _ _ => F3
    have C3 : Cx w p loose mean mg mb _ base _ _ _ _ _ _ := ⟨by assumption, F3, by assumption, N3, by assumption, XB, TB⟩
    rw [B64.e1024]
    refine ⟨sign_call (Ar.q1 hy) C3 rfl (by ktr_room) (by ktr_units) fun h4 tk4 tk4' C4 => ?_⟩
    have F4 := C4.F
    have N4 := C4.N
    clear C3 C4 F3 N3
    k_steps
    refine (congrArg (fun b => Q (Value.bool b) _) ?_).mp (hret _ _ (by kwd_rel))
    exact OO.ahead1 (by assumption)
  · rename News _ _ _ _ => N1
    rename Fr _ _ _ _ => F1
    have C1 : Cx w p loose mean mg mb _ base _ _ _ _ _ _ := ⟨by assumption, F1, by assumption, N1, by assumption, XB, TB⟩
    rw [B64.e16]
    refine ⟨sign_call (Ar.q2 x) C1 rfl (by ktr_room) (by ktr_units) fun h2 tk2 tk2' C2 => ?_⟩
    have F2 := C2.F
    have N2 := C2.N
    clear C1 C2 F1 N1
    k_steps
    rename News _ _ _ _ => N3
    rename Fr _ _ _ _ => F3
    have C3 : Cx w p loose mean mg mb _ base _ _ _ _ _ _ := ⟨by assumption, F3, by assumption, N3, by assumption, XB, TB⟩
    rw [B64.e16]
    refine ⟨sign_call (Ar.q2 y) C3 rfl (by ktr_room) (by ktr_units) fun h4 tk4 tk4' C4 => ?_⟩
    have F4 := C4.F
    have N4 := C4.N
    clear C3 C4 F3 N3
    k_steps
    refine (congrArg (fun b => Q (Value.bool b) _) ?_).mp (hret _ _ (by kwd_rel))
    exact OO.ahead2 (by assumption) (by assumption)
  · rename News _ _ _ _ => N1
    rename Fr _ _ _ _ => F1
    have C1 : Cx w p loose mean mg mb _ base _ _ _ _ _ _ := ⟨by assumption, F1, by assumption, N1, by assumption, XB, TB⟩
    rw [B64.elow]
    refine ⟨sign_call (Ar.q3 x) C1 rfl (by ktr_room) (by ktr_units) fun h2 tk2 tk2' C2 => ?_⟩
    have F2 := C2.F
    have N2 := C2.N
    clear C1 C2 F1 N1
    k_steps
    rename News _ _ _ _ => N3
    rename Fr _ _ _ _ => F3
    have C3 : Cx w p loose mean mg mb _ base _ _ _ _ _ _ := ⟨by assumption, F3, by assumption, N3, by assumption, XB, TB⟩
    rw [B64.elow]
    refine ⟨sign_call (Ar.q3 y) C3 rfl (by ktr_room) (by ktr_units) fun h4 tk4 tk4' C4 => ?_⟩
    have F4 := C4.F
    have N4 := C4.N
    clear C3 C4 F3 N3
    k_steps
    refine (congrArg (fun b => Q (Value.bool b) _) ?_).mp (hret _ _ (by kwd_rel))
    exact OO.ahead3 (by assumption) (by assumption)
end

theorem Stood.sub {M : Model} {A : Around} {e n : Expr} {a : Addr} {i : Int} {t : Tok} {Q E : Value → Shared → Prop} {s : Shared} (h : Stood (wpAny M A (subscriptTail e n (.ref a) (.int i t)) Q E s)) : wpAny M A (subscriptTail e n (.ref a) (.int i t)) Q E s := h.go
section
variable {w : World} {p : Program} {loose : List Str} {mean : ExcName → Option Value} {mg mb : Str → Option Value} {dp un : Nat} {gd : Option (List Code)} {cn : Str} {cs : Scope} {a : Addr} {ccd : Value} {cl : List (Str × Addr)} {outer : List Env} {A₀ : Around} {base h₀ : Heap} {L : Addr} {m : Str → Option Value} {news rest : List (Addr × Obj)} {s : Shared} {Q E : Value → Shared → Prop}
theorem marksI (n : Nat) : ([43, 47, 45, 95, 58, 64, 126, 33, 200] : List Int).getD n 0 = ((OO.marks.getD n 0 : Nat) : Int) := by
  rcases Nat.lt_or_ge n 9 with h | h
  · have : ∀ n, n < 9 → ([43, 47, 45, 95, 58, 64, 126, 33, 200] : List Int).getD n 0 = ((OO.marks.getD n 0 : Nat) : Int) := by decide +kernel
    exact this n h
  · rw [List.getD_eq_getElem?_getD, List.getElem?_eq_none (by exact h), List.getD_eq_getElem?_getD, List.getElem?_eq_none (by exact h)]; rfl
theorem marksI_ok (n : Nat) : 0 ≤ ([43, 47, 45, 95, 58, 64, 126, 33, 200] : List Int).getD n 0 ∧ ([43, 47, 45, 95, 58, 64, 126, 33, 200] : List Int).getD n 0 < 256 := by
  rw [marksI]
  refine ⟨Int.natCast_nonneg _, ?_⟩
  rcases Nat.lt_or_ge n 9 with h | h
  · have := (OO.marks_ok n h).1
    omega
  · rw [List.getD_eq_getElem?_getD, List.getElem?_eq_none (by exact h)]; decide
theorem marksI_octs (i j : Nat) (t1 t2 : Tok) : BM.octs [.int (([43, 47, 45, 95, 58, 64, 126, 33, 200] : List Int).getD i 0) t1, .int (([43, 47, 45, 95, 58, 64, 126, 33, 200] : List Int).getD j 0) t2] = #[(OO.marks.getD i 0).toUInt8, (OO.marks.getD j 0).toUInt8] := by
  rw [marksI, marksI]; rfl
set_option maxRecDepth 100000 in
set_option maxHeartbeats 2000000 in
theorem alts_call0 {hd0 : Int} {th : Tok} (C : Cx w p loose mean mg mb A₀ base outer h₀ L m s.heap news) (hk : cs.kind = .function) (hd : dp + 8 < recursionLimit) (hu : un + 40 < cLine)
  {i1 i2 : Nat} (e1 : hd0.fmod 9 = (i1 : Int)) (e2 : (hd0.fmod 9 + 1 + (hd0.fdiv 9).fmod 8).fmod 9 = (i2 : Int)) (l1 : i1 < 9) (l2 : i2 < 9)
  (hret : ∀ (h' : Heap) (tk tk' : Nat), s.toks ≤ tk → tk < tk' → Cx w p loose mean mg mb A₀ base outer h₀ L m h' news → Q (.bytes #[(OO.marks.getD i1 0).toUInt8, (OO.marks.getD i2 0).toUInt8] tk) { s with heap := h', toks := tk' }) :
  wpAny (model PySem.Challenge.pw_ij0047_01 w) (ktrTop dp un gd cn cs L a ccd cl outer) (call (.ref 471) [.int hd0 th]) Q E s := by
  obtain ⟨B, F, X, N, T, XB, TB⟩ := C
  refine wpAny_call ?_
  k_dflt cell_enter
  with_reducible refine gt_up (Nat.le_add_right s.toks _) (fun tk0 htk0 => ?_)
  k_steps
  rename News _ _ _ _ => N8
  rename Fr _ _ _ _ => F8
  have C8 : Cx w p loose mean mg mb _ base _ _ _ _ _ _ := ⟨by assumption, F8, by assumption, N8, by assumption, XB, TB⟩
  refine ⟨BM.bytes_of rfl ⟨_, (N8 _ (.head _)).1, rfl, _, rfl⟩ ?hv ?hz fun h9 hk9 => ?_⟩
  case hv =>
    intro v hv
    have hv' : v ∈ [_, _] := hv
    simp only [List.mem_cons, List.not_mem_nil, or_false] at hv'
    rcases hv' with rfl | rfl
    · exact ⟨_, _, rfl, (marksI_ok _).1, (marksI_ok _).2⟩
    · exact ⟨_, _, rfl, (marksI_ok _).1, (marksI_ok _).2⟩
  case hz => show 2 ≤ sizeLine; rw [sizeLine_eq]; decide
  have C9 := C8.keepsH hk9
  have F9 := C9.F
  have N9 := C9.N
  clear C8 C9 F8 N8
  k_steps
  refine (congrArg (fun b => Q (Value.bytes b _) _) ((marksI_octs (hd0.fmod 9).toNat ((hd0.fmod 9 + 1 + (hd0.fdiv 9).fmod 8).fmod 9).toNat _ _).trans (by rw [e2, e1, Int.toNat_natCast, Int.toNat_natCast]))).mpr ?_
  exact hret _ _ _ (by kwd_inv) (by kwd_inv) (by kwd_rel)
theorem alts_call {hd0 : Int} {th : Tok} (C : Cx w p loose mean mg mb A₀ base outer h₀ L m s.heap news) (hk : cs.kind = .function) (hd : dp + 8 < recursionLimit) (hu : un + 40 < cLine)
  (hret : ∀ (h' : Heap) (tk tk' : Nat), s.toks ≤ tk → tk < tk' → Cx w p loose mean mg mb A₀ base outer h₀ L m h' news → Q (.bytes #[(OO.alt1 hd0).toUInt8, (OO.alt2 hd0).toUInt8] tk) { s with heap := h', toks := tk' }) :
  wpAny (model PySem.Challenge.pw_ij0047_01 w) (ktrTop dp un gd cn cs L a ccd cl outer) (call (.ref 471) [.int hd0 th]) Q E s := by
  obtain ⟨i, hi⟩ := Int.eq_ofNat_of_zero_le (Int.fmod_nonneg_of_pos hd0 (b := 9) (by decide))
  obtain ⟨j, hj⟩ := Int.eq_ofNat_of_zero_le (Int.fmod_nonneg_of_pos (hd0.fmod 9 + 1 + (hd0.fdiv 9).fmod 8) (b := 9) (by decide))
  have f2 := Int.fmod_lt_of_pos hd0 (b := 9) (by decide)
  have g2 := Int.fmod_lt_of_pos (hd0.fmod 9 + 1 + (hd0.fdiv 9).fmod 8) (b := 9) (by decide)
  refine alts_call0 C hk hd hu hi hj (by omega) (by omega) ?_
  intro h' tk tk' a1 a2 C'
  have := hret h' tk tk' a1 a2 C'
  unfold OO.alt1 OO.alt2 at this
  rw [hj, hi, Int.toNat_natCast, Int.toNat_natCast] at this
  exact this
end

section
variable {w : World} {p : Program} {loose : List Str} {mean : ExcName → Option Value} {mg mb : Str → Option Value} {dp un : Nat} {gd : Option (List Code)} {cn : Str} {cs : Scope} {a : Addr} {ccd : Value} {cl : List (Str × Addr)} {outer : List Env} {A₀ : Around} {base h₀ : Heap} {L : Addr} {m : Str → Option Value} {news rest : List (Addr × Obj)} {s : Shared} {Q E : Value → Shared → Prop}
theorem ints_drop {vs : List Value} {ns : List Int} (k : Nat) (h : IntsAre vs ns) : IntsAre (vs.drop k) (ns.drop k) := IntsAre.drop h k
theorem ints_take {vs : List Value} {ns : List Int} (k : Nat) (h : IntsAre vs ns) : IntsAre (vs.take k) (ns.take k) := by
  induction h generalizing k with
  | nil => cases k <;> exact .nil
  | cons n t _ ih =>
    cases k with
    | zero => exact .nil
    | succ k => exact .cons n t (ih k)
theorem ints_push {vs : List Value} {ns : List Int} {n : Int} {t : Tok} (h : IntsAre vs ns) : IntsAre (vs ++ [.int n t]) (ns ++ [n]) := by
  induction h with
  | nil => exact .cons _ _ .nil
  | cons _ _ _ ih => exact .cons _ _ ih
theorem ints_at {vs : List Value} {ns : List Int} (h : IntsAre vs ns) : ∀ (i : Nat) (n : Int), ns[i]? = some n → ∃ t, vs[i]? = some (.int n t) := by
  induction h with
  | nil => intro i n e; cases e
  | cons k t _ ih =>
    intro i n e
    cases i with
    | zero => cases e; exact ⟨t, rfl⟩
    | succ i => exact ih i n e
theorem pick_1_11 (vs : List Value) : kms_pick vs (some 1) (some 11) = (vs.drop 1).take 10 := by
  have h1 : ¬ ((1 : Int) < 0) := by decide
  have h2 : ¬ ((11 : Int) < 0) := by decide
  unfold kms_pick kms_lo kms_hi
  simp only [if_neg h1, if_neg h2]
  rcases vs with _ | ⟨v, vs⟩
  · simp
  · have e1 : min (Int.toNat 1) (v :: vs).length = 1 := by simp
    rw [e1]
    show List.take _ vs = List.take 10 vs
    have e2 : min (Int.toNat 11) (v :: vs).length - 1 = min 10 vs.length := by
      have : Int.toNat 11 = 11 := rfl
      rw [this, List.length_cons]; exact Ar.min11 _
    rw [e2]
    rcases Nat.le_total 10 vs.length with h | h
    · rw [Nat.min_eq_left h]
    · rw [Nat.min_eq_right h, List.take_of_length_le h, List.take_of_length_le (Nat.le_refl _)]
noncomputable abbrev ukEnv (L : Addr) : Env := envOf (Str.ofString "_law_unlike") (scOf (topSt 37)) L 485 (.ref 484)
noncomputable def MU (D : Nat) (b : Option Value) (m0 : Str → Option Value) : Str → Option Value := fun y => if y = Str.ofString "numbers" then some (.ref D) else if y = Str.ofString "x" then b else m0 y
theorem fr_mu {h₀ h : Heap} {L : Addr} {m m0 : Str → Option Value} {D : Nat} (F : Fr h₀ L h m) (h2 : m (Str.ofString "numbers") = some (.ref D)) (h3 : ∀ y, y ≠ Str.ofString "numbers" → y ≠ Str.ofString "x" → m y = m0 y) : Fr h₀ L h (MU D (m (Str.ofString "x")) m0) := by
  have e : m = MU D (m (Str.ofString "x")) m0 := by
    funext y
    unfold MU
    by_cases q0 : y = Str.ofString "numbers"
    · rw [if_pos q0, q0, h2]
    · rw [if_neg q0]
      by_cases q1 : y = Str.ofString "x"
      · rw [if_pos q1, q1]
      · rw [if_neg q1, h3 y q0 q1]
  rw [← e]; exact F
theorem any_new (ns : List Nat) (x : Int) : ((ns.map Int.ofNat).any (· == x.fmod 65536)) = decide ((x.fmod 65536).toNat ∈ ns) := by
  have f1 := Int.fmod_nonneg_of_pos x (b := 65536) (by decide)
  induction ns with
  | nil => simp
  | cons n ns ih =>
    rw [List.map_cons, List.any_cons, ih]
    by_cases h : (x.fmod 65536).toNat = n
    · have : Int.ofNat n == x.fmod 65536 := by rw [beq_iff_eq, ← h]; exact Int.toNat_of_nonneg f1
      rw [this, Bool.true_or]; simp [h]
    · have : ¬ (Int.ofNat n = x.fmod 65536) := fun e => h (by rw [← e]; rfl)
      have h2 : (Int.ofNat n == x.fmod 65536) = false := by simpa using this
      rw [h2, Bool.false_or]
      simp [h]
set_option maxRecDepth 100000 in
set_option maxHeartbeats 2000000 in
theorem unlike_turn {D I : Nat} {oI : Obj} {ys : Array Value} {c : Nat} {ns : List Nat} {x : Int} {tx : Tok} {m0 : Str → Option Value} {Qf : Flow → Shared → Prop}
  (C : Cx w p loose mean mg mb A₀ base outer h₀ L (MU D (some (.int x tx)) m0) s.heap ((I, oI) :: (D, listOf ys c) :: rest)) (hd : dp + 8 < recursionLimit) (hu : un + 40 < cLine) (n1 : I ≠ D) (r : ∀ q ∈ rest, q.1 ≠ D)
  (hi : IntsAre ys.toList (ns.map Int.ofNat)) (hz : ns.length < 64) (hE : PassesOwn (model PySem.Challenge.pw_ij0047_01 w) (ktrTop dp un gd (Str.ofString "_law_unlike") (scOf (topSt 37)) L 485 (.ref 484) [] outer) (ukEnv L) E)
  (hret : ∀ (h' : Heap) (tk' : Nat) (ys' : Array Value) (c' : Nat), s.toks ≤ tk' → IntsAre ys'.toList ((OO.addNew ns x).map Int.ofNat) → Cx w p loose mean mg mb A₀ base outer h₀ L (MU D (some (.int x tx)) m0) h' ((I, oI) :: (D, listOf ys' c') :: rest) → Qf .next { s with heap := h', toks := tk' }) :
  wpAny (model PySem.Challenge.pw_ij0047_01 w) (ktrTop dp un gd (Str.ofString "_law_unlike") (scOf (topSt 37)) L 485 (.ref 484) [] outer) (execs (forBody (stAt (bodyOf (topSt 37)) 1)) (ukEnv L)) Qf E s := by
  obtain ⟨B, F, X, N, T, XB, TB⟩ := C
  k_steps
  · rename_i c1 _ _
    rw [any_new] at c1
    refine hret _ _ _ _ (by kwd_inv) ?_ ⟨B, F, X, N, T, XB, TB⟩
    unfold OO.addNew; rw [if_pos (of_decide_eq_true c1)]; exact hi
  · rename_i c1 _ _ _ F2 N2 _ _
    rw [any_new] at c1
    refine hret _ _ _ _ (by kwd_inv) ?_ ⟨B, F2, X, N2, T, XB, TB⟩
    have f1 := Int.fmod_nonneg_of_pos x (b := 65536) (by decide)
    unfold OO.addNew; rw [if_neg (of_decide_eq_false c1), List.map_append, Array.toList_push]
    refine hi.append ?_
    show IntsAre _ [Int.ofNat _]
    rw [show Int.ofNat (x.fmod 65536).toNat = x.fmod 65536 from Int.toNat_of_nonneg f1]
    exact .cons _ _ .nil
set_option maxRecDepth 100000 in
set_option maxHeartbeats 2000000 in
theorem unlike_loop {D I S : Nat} {ss : List Value} {zs : List Int} {c1 tk0 : Nat} {m0 : Str → Option Value} {Qf : Flow → Shared → Prop} {gs : Array GenState} {dr : Drawn} {os : OsState}
  (hd : dp + 8 < recursionLimit) (hu : un + 40 < cLine) (n1 : I ≠ D) (n2 : I ≠ S) (r : ∀ q ∈ rest, q.1 ≠ D) (r2 : ∀ q ∈ rest, q.1 ≠ I) (hS : (S, listOf ss.toArray c1) ∈ rest)
  (hz : IntsAre ss zs) (hzl : zs.length ≤ 10) (hE : PassesOwn (model PySem.Challenge.pw_ij0047_01 w) (ktrTop dp un gd (Str.ofString "_law_unlike") (scOf (topSt 37)) L 485 (.ref 484) [] outer) (ukEnv L) E)
  (hfin : ∀ (h' : Heap) (tk' : Nat) (ys' : Array Value) (c' : Nat) (b : Option Value), tk0 ≤ tk' → IntsAre ys'.toList ((zs.foldl OO.addNew [64000, 775, 27000]).map Int.ofNat) → Cx w p loose mean mg mb A₀ base outer h₀ L (MU D b m0) h' ((D, listOf ys' c') :: rest) → Qf .next ⟨h', gs, dr, tk', os⟩) :
  ∀ (f j : Nat) (h : Heap) (tk : Nat) (ys : Array Value) (c : Nat) (b : Option Value), j + f = zs.length → tk0 ≤ tk → IntsAre ys.toList (((zs.take j).foldl OO.addNew [64000, 775, 27000]).map Int.ofNat) →
    Cx w p loose mean mg mb A₀ base outer h₀ L (MU D b m0) h ((I, liObj S j) :: (D, listOf ys c) :: rest) →
    RestX PySem.Challenge.pw_ij0047_01 w (ktrTop dp un gd (Str.ofString "_law_unlike") (scOf (topSt 37)) L 485 (.ref 484) [] outer) E (ukEnv L) (forTarget (stAt (bodyOf (topSt 37)) 1)) (forBody (stAt (bodyOf (topSt 37)) 1)) Qf (.ref I) (f + 1) ⟨h, gs, dr, tk, os⟩ := by
  have rI : ∀ (ys : Array Value) (c : Nat), ∀ q ∈ (D, listOf ys c) :: rest, q.1 ≠ I := fun ys c => List.forall_mem_cons.2 ⟨fun e => n1 e.symm, r2⟩
  intro f
  induction f with
  | zero =>
    intro j h tk ys c b hj htk hys C
    have e : j = zs.length := by omega
    subst e
    rw [List.take_length] at hys
    show wpAny _ _ (pyNext (.ref I)) _ E _
    refine li_stop (s := ⟨h, gs, dr, tk, os⟩) rfl C.F C.N (rI _ _) (.tail _ hS) (by rw [List.getElem?_toArray, List.getElem?_eq_none (by rw [hz.length]; exact Nat.le_refl _)]) fun h' F' N' => ?_
    exact hfin h' tk ys c b htk hys ⟨C.B, F', C.X, N', C.T, C.XB, C.TB⟩
  | succ f ih =>
    intro j h tk ys c b hj htk hys C
    show wpAny _ _ (pyNext (.ref I)) _ E _
    have hjl : j < zs.length := Ar.jlt (by assumption)
    obtain ⟨t, ht⟩ := hz.get j zs[j] (List.getElem?_eq_getElem hjl)
    refine li_next (s := ⟨h, gs, dr, tk, os⟩) C.F C.N (rI _ _) (.tail _ hS) (v := .int zs[j] t) (by rw [List.getElem?_toArray]; exact ht) fun h2 F2 N2 => ?_
    refine letGo_name ?_
    refine wpAny_assign_Name (wpAny_storeName_local rfl F2.ns (fun h3 hn3 hs3 => ?_) rfl)
    have F3 : Fr h₀ L h3 (MU D (some (.int zs[j] t)) m0) := by
      have e : MU D (some (.int zs[j] t)) m0 = (fun z => if z = Str.ofString "x" then some (.int zs[j] t) else MU D b m0 z) := by
        funext z
        unfold MU
        by_cases q : z = Str.ofString "x"
        · subst q; rw [if_neg (by decide), if_pos rfl, if_pos rfl]
        · simp only [q, if_false]
      rw [e]
      have hL₀ : h₀.get? L = none := Heap.get?_none_of_le F2.above
      exact ⟨hn3, fun b o e => hs3.extBut b o (fun q => by have q' : b = L := q; rw [q', hL₀] at e; cases e) (F2.keep b o e), F2.above⟩
    have N3 : News h₀ L h3 ((I, liObj S (j + 1 : Nat)) :: (D, listOf ys c) :: rest) := fun q hq => ⟨hs3.extBut _ _ (N2 q hq).2.1 (N2 q hq).1, (N2 q hq).2⟩
    refine unlike_turn (s := ⟨h3, gs, dr, _, os⟩) (ns := (zs.take j).foldl OO.addNew [64000, 775, 27000]) ⟨C.B, F3, C.X, N3, C.T, C.XB, C.TB⟩ hd hu n1 r hys ?len hE fun h' tk' ys' c' htk' hi' C' => ?_
    case len =>
      have G := OO.good_fold (zs.take j) 3 [64000, 775, 27000] ⟨by decide, by decide, by decide, by decide⟩
      exact Ar.len64 G.le (List.length_take_le' ..) (by assumption)
    · dsimp only at htk'
      show RestX _ _ _ _ _ _ _ _ _ _ _
      refine ih (j + 1) h' tk' ys' c' _ (Ar.jn (by assumption)) (by omega) ?_ C'
      rw [List.take_succ, List.foldl_append, List.getElem?_eq_getElem hjl]
      exact hi'
set_option maxRecDepth 100000 in
set_option maxHeartbeats 2000000 in
theorem unlike_call {l : Nat} {vs : List Value} {script : List Int} (C : Cx w p loose mean mg mb A₀ base outer h₀ L m s.heap news) (hk : cs.kind = .function) (hd : dp + 12 < recursionLimit) (hu : un + 60 < cLine)
  (hl : h₀.IsList l vs.toArray) (hi : IntsAre vs script) (hm : script.length < 64)
  (hret : ∀ (h' : Heap) (tk' D c : Nat) (ys : Array Value), s.toks ≤ tk' → IntsAre ys.toList ((OO.numbersOf script).map Int.ofNat) →
    (∀ q ∈ news, q.1 < D) → Cx w p loose mean mg mb A₀ base outer h₀ L m h' ((D, listOf ys c) :: news) → Q (.ref D) { s with heap := h', toks := tk' }) :
  wpAny (model PySem.Challenge.pw_ij0047_01 w) (ktrTop dp un gd cn cs L a ccd cl outer) (call (.ref 485) [.ref l]) Q E s := by
  obtain ⟨B, F, X, N, T, XB, TB⟩ := C
  refine wpAny_call ?_
  k_dflt cell_enter
  with_reducible refine gt_up (Nat.le_add_right s.toks _) (fun tk0 htk0 => ?_)
  k_steps
  refine ⟨forX (hE := by passes_own) ?_⟩
  k_steps
  rename News _ _ _ _ => N1
  rename Fr _ _ _ _ => F1
  rename Fr h₀ L _ m => FG
  have hl1 := hl.at fun o e => F1.keep _ _ (FG.keep _ _ e)
  refine' kms_slice_lit (zs := (vs.drop 1).take 10) F1 N1 ?l (.int _ _) (.int _ _) (pick_1_11 vs) ?_ ?s ?t ?z
  case l => exact hl1
  case s => with_unfolding_all rfl
  case t => kmk_pure
  case z => rw [List.size_toArray, hi.length, sizeLine_eq]; omega
  intro S h2 F2 N2 lt2
  refine wpAny_pyIter_list (News.isList N2 (.head _)) ?_
  have lt3 := news_lt N2
  have F3 := F2.push (liObj S (0 : Nat))
  have N3 := News.push F2 N2 (liObj S (0 : Nat))
  have hzs : IntsAre ((vs.drop 1).take 10) ((script.drop 1).take 10) := (hi.drop 1).take 10
  have hzl : ((script.drop 1).take 10).length ≤ 10 := by rw [List.length_take]; exact Nat.min_le_left _ _
  refine ⟨((script.drop 1).take 10).length + 1, ?_⟩
  have ltn : ∀ q ∈ news, q.1 ≠ h2.objs.size := fun q hq => Nat.ne_of_lt (lt3 q (.tail _ (.tail _ hq)))
  k_lt lt2
  k_lt lt3
  have lr : ∀ q ∈ (S, listOf ((vs.drop 1).take 10).toArray 0) :: news, q.1 ≠ h2.objs.size := List.forall_mem_cons.2 ⟨neN (by omega), ltn⟩
  refine unlike_loop (S := S) (I := h2.objs.size) (rest := (S, listOf ((vs.drop 1).take 10).toArray 0) :: news) (tk0 := s.toks) (by ktr_room) (by ktr_units) (neN (by omega)) (neN (by omega)) (List.forall_mem_cons.2 ⟨neN (by omega), by k_all⟩) lr (.head _) hzs hzl (by passes_own) ?_ _ 0 _ _ _ _ _ (by omega) (by kwd_inv) (.cons _ _ (.cons _ _ (.cons _ _ .nil))) (Cx.mk (by assumption) (fr_mu F3 rfl (fun _ _ _ => rfl)) (by assumption) (cb_drop N3 (by tb_start)) (by assumption) XB TB)
  intro h4 tk4 ys4 c4 b4 htk4 hi4 C4
  have F4 := C4.F
  have N4 := C4.N
  clear C4 F3 N3 F2 N2 F1 N1
  dsimp only
  k_steps
  exact hret _ _ _ _ ys4 (by kwd_inv) hi4 (fun q hq => lt_of_allLt (by assumption) q hq) (by kwd_rel)
end

section
variable {prog : Program} {w : World} {p : Program} {loose : List Str} {mean : ExcName → Option Value} {mg mb : Str → Option Value} {A₀ A : Around} {base h₀ h h' : Heap} {outer : List Env} {L : Addr} {m : Str → Option Value} {news rest : List (Addr × Obj)} {s : Shared} {E : Value → Shared → Prop} {env : Env}
noncomputable abbrev lstO (ys : List Value) : Obj := listOf ys.toArray ys.length
theorem lstO_snoc (ys : List Value) (y : Value) : (listOf (ys.toArray.push y) (ys.length + 1)) = lstO (ys ++ [y]) := by
  unfold lstO
  rw [List.length_append, List.length_singleton, List.push_toArray]
/-- where a turn of a comprehension leads -/
noncomputable def TurnTo (w : World) (p : Program) (loose : List Str) (mean : ExcName → Option Value) (mg mb : Str → Option Value) (A₀ : Around) (base : Heap) (outer : List Env) (h₀ : Heap) (L : Addr) (m : Str → Option Value) (s : Shared) (led : List (Addr × Obj)) (tk0 : Nat) (P : List Value → Nat → Prop) (ys : List Value) (s' : Shared) : Prop :=
  ∃ h' tk', s' = { s with heap := h', toks := tk' } ∧ tk0 ≤ tk' ∧ P ys tk' ∧ Cx w p loose mean mg mb A₀ base outer h₀ L m h' led
set_option maxHeartbeats 1000000 in
theorem comp_L {elt iter : Expr} {ifs : List Expr} {x : Str} {px pos pos2 : Pos} {scope : Scope} {clo : List (Str × Addr)} {use : Option (Value → Sem Unit)} {l c : Nat} {xs : Array Value} {P : Nat → List Value → Nat → Prop} {Q : Value → Shared → Prop}
    (C : Cx w p loose mean mg mb A₀ base outer h₀ L m s.heap news) (hh : A.handled = none) (hclos : closureFor scope env = pure clo) (hcell : ∀ y ∈ scope.names, y.2 ≠ .cell) (hkind : scope.kind = .function)
    (hnames : ∀ y ∈ scope.names, y.2 = .local → scope.names.lookup y.1 = some .local) (hx : scope.names.lookup x = some .local) (hs : ∀ x, foldedSetIterable iter env x = pure x)
    (hiter : ∀ Q' : Value → Shared → Prop, Q' (.ref l) s → wpAny (model prog w) A (eval iter env) Q' E s) (hm : (l, listOf xs c) ∈ news) (hsz : xs.size ≤ sizeLine) (hP0 : P 0 [] s.toks) (hmo : ∀ i ys tk tk', tk ≤ tk' → P i ys tk → P i ys tk')
    (turn : ∀ (i : Nat) (v : Value) (I Cn D : Nat) (oC : Obj) (m₂ : Str → Option Value) (ys : List Value) (h : Heap) (tk : Nat) (E' : Value → Shared → Prop), i < xs.size → xs[i]? = some v → P i ys tk → s.toks ≤ tk → LCg.NsObj oC m₂ → m₂ x = some v →
      I ≠ Cn → I ≠ D → Cn ≠ D → (∀ q ∈ news, q.1 < I ∧ q.1 < Cn ∧ q.1 < D) → Cx w p loose mean mg mb A₀ base outer h₀ L m h ((I, liObj l (i + 1 : Nat)) :: (Cn, oC) :: (D, lstO ys) :: news) →
      wpAny (model prog w) A (forIn ifs true fun c r => if r = true then do let ok ← isTrue c (compEnvC scope clo Cn env) (eval c (compEnvC scope clo Cn env)); pure (ForInStep.yield ok) else pure (ForInStep.yield r))
        (fun ok s₃ => if ok = true then wpAny (model prog w) A (eval elt (compEnvC scope clo Cn env)) (fun y s₄ => TurnTo w p loose mean mg mb A₀ base outer h₀ L m s ((I, liObj l (i + 1 : Nat)) :: (Cn, oC) :: (D, lstO ys) :: news) tk (P (i + 1)) (ys ++ [y]) s₄) E' s₃
          else TurnTo w p loose mean mg mb A₀ base outer h₀ L m s ((I, liObj l (i + 1 : Nat)) :: (Cn, oC) :: (D, lstO ys) :: news) tk (P (i + 1)) ys s₃) E' { s with heap := h, toks := tk })
    (fin : ∀ (D Cn : Nat) (h : Heap) (tk : Nat) (ys : List Value) (m' : Str → Option Value), P xs.size ys tk → s.toks ≤ tk → h.Ns Cn m' → Cn ≠ L → h₀.get? Cn = none → Cn ≠ D → (∀ q ∈ news, q.1 < D ∧ q.1 < Cn) → Cx w p loose mean mg mb A₀ base outer h₀ L m h ((D, lstO ys) :: news) →
      compPost (model prog w) A E use Q (.ref D) Cn (.ok .next) { s with heap := h, toks := tk }) :
    wpAny (model prog w) A (comprehension (.ListComp elt [⟨.Name x px, iter, ifs, 0⟩] scope pos) scope env pos2 (newList []) false (eval iter env) use) Q E s := by
  refine wpAny_comprehension_free (use := use) rfl hs hclos hkind hnames (hiter _ ?_)
  refine wpAny_pyIter_list (News.isList C.N hm) ?_
  have C1 := C.push (liObj l (0 : Nat))
  refine wpAny_newObj_type ?_
  have C2 := C1.push (lstO [])
  refine wpAny_newFunctionEnv hcell (by intro y hy; simp at hy) (fun h₁ hns₁ hsb₁ => ?_) hkind
  have C3 := C2.push { cls := .type "dict", data := .dict #[] }
  obtain ⟨oC0, hC0, nC0⟩ := LCg.ns_obj hns₁
  have C4 : Cx w p loose mean mg mb A₀ base outer h₀ L m h₁ ((_, oC0) :: (_, lstO []) :: (_, liObj l (0 : Nat)) :: news) := C3.setHead C2.ne hsb₁ hC0
  have ltn : ∀ q ∈ news, q.1 < s.heap.objs.size := C.lt
  clear C1 C3
  have hC2 := C2.lt
  clear C2
  have z1 : (s.heap.push (liObj l (0 : Nat))).objs.size = s.heap.objs.size + 1 := Heap.size_push ..
  have z2 : ((s.heap.push (liObj l (0 : Nat))).push (lstO [])).objs.size = s.heap.objs.size + 1 + 1 := by rw [Heap.size_push, z1]
  show codeAny _ _ (.compStart _ 0 _ _ (compEnvC scope clo ((s.heap.push (liObj l (0 : Nat))).push (lstO [])).objs.size env)) (compPost _ _ _ _ _ _ ((s.heap.push (liObj l (0 : Nat))).push (lstO [])).objs.size) _
  show codeAny _ _ (.compStart _ 0 _ (.ref (s.heap.push (liObj l (0 : Nat))).objs.size) _) (compPost _ _ _ _ _ (.ref (s.heap.push (liObj l (0 : Nat))).objs.size) _) _
  show codeAny _ _ (.compStart _ 0 (.ref s.heap.objs.size) _ _) _ ⟨h₁, s.gens, s.drawn, s.toks, s.os⟩
  clear hns₁ hsb₁ hC0 hC2
  generalize ((s.heap.push (liObj l (0 : Nat))).push (lstO [])).objs.size = Cn at *
  generalize (s.heap.push (liObj l (0 : Nat))).objs.size = D at *
  generalize hI : s.heap.objs.size = I at *
  have d1 : I ≠ Cn := by omega
  have d2 : I ≠ D := by omega
  have d3 : Cn ≠ D := by omega
  have rI : ∀ (oC oD : Obj), ∀ q ∈ (Cn, oC) :: (D, oD) :: news, q.1 ≠ I := fun _ _ => List.forall_mem_cons.2 ⟨Ne.symm d1, List.forall_mem_cons.2 ⟨Ne.symm d2, fun q hq => Nat.ne_of_lt (ltn q hq)⟩⟩
  have rC : ∀ (oI oD : Obj), ∀ q ∈ (I, oI) :: (D, oD) :: news, q.1 ≠ Cn := fun _ _ => List.forall_mem_cons.2 ⟨d1, List.forall_mem_cons.2 ⟨Ne.symm d3, fun q hq => Nat.ne_of_lt (Nat.lt_trans (ltn q hq) (by omega))⟩⟩
  have rD : ∀ (oI oC : Obj), ∀ q ∈ (I, oI) :: (Cn, oC) :: news, q.1 ≠ D := fun _ _ => List.forall_mem_cons.2 ⟨d2, List.forall_mem_cons.2 ⟨d3, fun q hq => Nat.ne_of_lt (Nat.lt_trans (ltn q hq) (by omega))⟩⟩
  have lts : ∀ q ∈ news, q.1 < I ∧ q.1 < Cn ∧ q.1 < D := fun q hq => ⟨ltn q hq, Nat.lt_trans (ltn q hq) (by omega), Nat.lt_trans (ltn q hq) (by omega)⟩
  have loop : codeAny (model prog w) A (.compLoop (.ListComp elt [⟨.Name x px, iter, ifs, 0⟩] scope pos) 0 (.ref I) (.ref D) (compEnvC scope clo Cn env)) (compPost (model prog w) A E use Q (.ref D) Cn) ⟨h₁, s.gens, s.drawn, s.toks, s.os⟩ := by
    refine codeAny_compLoop_tests (fun k s' => ∃ h' tk i ys m' oC, s' = { s with heap := h', toks := tk } ∧ i ≤ xs.size ∧ k = xs.size + 1 - i ∧ P i ys tk ∧ s.toks ≤ tk ∧ ys.length ≤ i ∧ LCg.NsObj oC m' ∧
      Cx w p loose mean mg mb A₀ base outer h₀ L m h' ((I, liObj l (i : Nat)) :: (Cn, oC) :: (D, lstO ys) :: news)) ?_ (xs.size + 1) ⟨h₁, _, 0, [], _, oC0, rfl, Nat.zero_le _, rfl, hP0, Nat.le_refl _, Nat.le_refl _, nC0, C4.sub (by tb_start)⟩
    rintro k s' ⟨h', tk, i, ys, m', oC, rfl, hi, rfl, hP, htk, hyl, hoC, C'⟩
    by_cases hlt : i < xs.size
    · refine li_next (s := { s with heap := h', toks := tk }) C'.F C'.N (rI _ _) (.tail _ (.tail _ hm)) (Array.getElem?_eq_getElem hlt) fun h2 F2 N2 => ?_
      have hC2 := (N2 _ (.tail _ (.head _))).1
      refine wpAny_assign_Name (wpAny_storeName_local (lookup_relabel_local hx) (hoC.ns hC2) (fun h₃ hn₃ hs₃ => ?_) (by simp [compEnvC, relabel, hkind]))
      obtain ⟨oC', heC, hoC'⟩ := LCg.ns_obj hn₃
      have CC : Cx w p loose mean mg mb A₀ base outer h₀ L m h₃ ((Cn, oC') :: (I, liObj l (i + 1 : Nat)) :: (D, lstO ys) :: news) := ((Cx.mk C'.B F2 C'.X N2 C'.T C'.XB C'.TB).sub (by tb_start)).setHead (rC _ _) hs₃ heC
      refine wpAny_mono (turn i xs[i] I Cn D oC' _ ys h₃ _ _ hlt (Array.getElem?_eq_getElem hlt) (hmo _ _ _ _ (Nat.le_succ _) hP) (Nat.le_succ_of_le htk) hoC' (by simp) d1 d2 d3 lts (CC.sub (by tb_start))) (fun ok s₃ h => ?_) fun _ _ e => e
      cases ok with
      | false =>
        simp only [Bool.false_eq_true, if_false] at h ⊢
        obtain ⟨h4, tk4, rfl, htk4, hP4, C4'⟩ := h
        exact ⟨xs.size + 1 - (i + 1), Ar.dec hlt, h4, tk4, i + 1, ys, _, oC', rfl, hlt, rfl, hP4, Nat.le_trans (Nat.le_succ_of_le htk) htk4, Nat.le_succ_of_le hyl, hoC', C4'⟩
      | true =>
        simp only [if_true] at h ⊢
        refine wpAny_mono h (fun y s₄ h => ?_) fun _ _ e => e
        obtain ⟨h4, tk4, rfl, htk4, hP4, C4'⟩ := h
        refine append_at (hsz := by show ys.toArray.size ≤ sizeLine; rw [List.size_toArray]; omega) (C4'.N _ (.tail _ (.tail _ (.head _)))).1 fun h₅ hs₅ hD₅ => ?_
        have CD : Cx w p loose mean mg mb A₀ base outer h₀ L m h4 ((D, lstO ys) :: (I, liObj l (i + 1 : Nat)) :: (Cn, oC') :: news) := C4'.sub (by tb_start)
        have C5 := CD.setHead (rD _ _) hs₅ (hD₅.trans (congrArg some (lstO_snoc ys y)))
        exact ⟨xs.size + 1 - (i + 1), Ar.dec hlt, h₅, tk4, i + 1, ys ++ [y], _, oC', rfl, hlt, rfl, hP4, Nat.le_trans (Nat.le_succ_of_le htk) htk4, by rw [List.length_append, List.length_singleton]; exact Nat.succ_le_succ hyl, hoC', C5.sub (by tb_start)⟩
    · obtain rfl : i = xs.size := Nat.le_antisymm hi (Nat.not_lt.mp hlt)
      refine li_stop (s := { s with heap := h', toks := tk }) hh C'.F C'.N (rI _ _) (.tail _ (.tail _ hm)) (Array.getElem?_eq_none (Nat.le_refl _)) fun h2 F2 N2 => ?_
      have hC2 := N2 _ (.head _)
      exact fin D Cn h2 tk ys m' hP htk (hoC.ns hC2.1) hC2.2.1 hC2.2.2 d3 (fun q hq => ⟨(lts q hq).2.2, (lts q hq).2.1⟩) ⟨C'.B, F2, C'.X, fun q hq => N2 q (.tail _ hq), C'.T, C'.XB, C'.TB⟩
  refine codeAny_compStart_list loop ((Walks.list hh I l ?_ xs).self 0 _ _ _ ⟨⟨_, (C4.N _ (.tail _ (.tail _ (.head _)))).1, rfl, rfl⟩, News.isList C4.N (.tail _ (.tail _ (.tail _ hm)))⟩ loop)
  exact Nat.ne_of_lt (ltn _ hm)
end

section
variable {prog : Program} {w : World} {p : Program} {loose : List Str} {mean : ExcName → Option Value} {mg mb : Str → Option Value} {A₀ A : Around} {base h₀ h h' : Heap} {outer : List Env} {L : Addr} {m : Str → Option Value} {news rest : List (Addr × Obj)} {s : Shared} {E : Value → Shared → Prop} {env : Env}
set_option maxHeartbeats 1000000 in
theorem comp_X {elt iter : Expr} {ifs : List Expr} {x : Str} {px pos pos2 : Pos} {scope : Scope} {clo : List (Str × Addr)} {use : Option (Value → Sem Unit)} {l c : Nat} {xs : Array Value} {P : Nat → List Value → Nat → Prop} {Q : Value → Shared → Prop}
    (C : Cx w p loose mean mg mb A₀ base outer h₀ L m s.heap news) (hh : A.handled = none) (hclos : closureFor scope env = pure clo) (hcs : ∀ n, cellsFrom n scope.names clo = (x, n) :: clo) (hps : ∀ h, pushCells h scope.names = h.push { cls := .type "cell", data := .cell none }) (hkind : scope.kind = .function)
    (hnames : ∀ y ∈ scope.names, y.2 = .local → scope.names.lookup y.1 = some .local) (hx : ∀ (Cn X : Nat), (compEnvC scope ((x, X) :: clo) Cn env).kindOf x = some .cell) (hs : ∀ x, foldedSetIterable iter env x = pure x)
    (hiter : ∀ Q' : Value → Shared → Prop, Q' (.ref l) s → wpAny (model prog w) A (eval iter env) Q' E s) (hm : (l, listOf xs c) ∈ news) (hsz : xs.size ≤ sizeLine) (hP0 : P 0 [] s.toks) (hmo : ∀ i ys tk tk', tk ≤ tk' → P i ys tk → P i ys tk')
    (turn : ∀ (i : Nat) (v : Value) (I Cn D X : Nat) (oC oX : Obj) (ys : List Value) (h : Heap) (tk : Nat) (E' : Value → Shared → Prop), i < xs.size → xs[i]? = some v → P i ys tk → s.toks ≤ tk → oX.data = .cell (some v) →
      I < D → D < Cn → Cn < X → (∀ q ∈ news, q.1 < I) → Cx w p loose mean mg mb A₀ base outer h₀ L m h ((I, liObj l (i + 1 : Nat)) :: (X, oX) :: (Cn, oC) :: (D, lstO ys) :: news) →
      wpAny (model prog w) A (forIn ifs true fun c r => if r = true then do let ok ← isTrue c (compEnvC scope ((x, X) :: clo) Cn env) (eval c (compEnvC scope ((x, X) :: clo) Cn env)); pure (ForInStep.yield ok) else pure (ForInStep.yield r))
        (fun ok s₃ => if ok = true then wpAny (model prog w) A (eval elt (compEnvC scope ((x, X) :: clo) Cn env)) (fun y s₄ => TurnTo w p loose mean mg mb A₀ base outer h₀ L m s ((I, liObj l (i + 1 : Nat)) :: (X, oX) :: (Cn, oC) :: (D, lstO ys) :: news) tk (P (i + 1)) (ys ++ [y]) s₄) E' s₃
          else TurnTo w p loose mean mg mb A₀ base outer h₀ L m s ((I, liObj l (i + 1 : Nat)) :: (X, oX) :: (Cn, oC) :: (D, lstO ys) :: news) tk (P (i + 1)) ys s₃) E' { s with heap := h, toks := tk })
    (fin : ∀ (D Cn : Nat) (h : Heap) (tk : Nat) (ys : List Value) (m' : Str → Option Value), P xs.size ys tk → s.toks ≤ tk → h.Ns Cn m' → Cn ≠ L → h₀.get? Cn = none → Cn ≠ D → (∀ q ∈ news, q.1 < D ∧ q.1 < Cn) → Cx w p loose mean mg mb A₀ base outer h₀ L m h ((D, lstO ys) :: news) →
      compPost (model prog w) A E use Q (.ref D) Cn (.ok .next) { s with heap := h, toks := tk }) :
    wpAny (model prog w) A (comprehension (.ListComp elt [⟨.Name x px, iter, ifs, 0⟩] scope pos) scope env pos2 (newList []) false (eval iter env) use) Q E s := by
  refine wpAny_comprehension_free (use := use) rfl hs hclos hkind hnames (hiter _ ?_)
  refine wpAny_pyIter_list (News.isList C.N hm) ?_
  have C1 := C.push (liObj l (0 : Nat))
  refine wpAny_newObj_type ?_
  have C2 := C1.push (lstO [])
  have C3 := C2.push { cls := .type "dict", data := .dict #[] }
  have C3' := C3.push { cls := .type "cell", data := .cell none }
  simp only [newFunctionEnv, Option.isSome_some, if_true]
  refine wpAny_bind (wpAny_alloc ?_)
  refine wpAny_bind (wpAny_layCells _ (fun name kind cells => by cases hkc : kind == NameKind.cell <;> simp [hkc]) _ _ _ _ ?_)
  rw [hcs, hps]
  rw [List.forIn_nil]
  refine wpAny_bind (wpAny_pure (wpAny_pure ?_))
  have ltn : ∀ q ∈ news, q.1 < s.heap.objs.size := C.lt
  have z1 : (s.heap.push (liObj l (0 : Nat))).objs.size = s.heap.objs.size + 1 := Heap.size_push ..
  have z2 : ((s.heap.push (liObj l (0 : Nat))).push (lstO [])).objs.size = s.heap.objs.size + 1 + 1 := by rw [Heap.size_push, z1]
  have z3 : (((s.heap.push (liObj l (0 : Nat))).push (lstO [])).push { cls := .type "dict", data := .dict #[] }).objs.size = s.heap.objs.size + 1 + 1 + 1 := by rw [Heap.size_push, z2]
  clear C1 C2 C3
  have C4 : Cx w p loose mean mg mb A₀ base outer h₀ L m _ ((_, { cls := .type "cell", data := .cell none }) :: (_, { cls := .type "dict", data := .dict #[] }) :: (_, lstO []) :: (_, liObj l (0 : Nat)) :: news) := C3'
  clear C3'
  show codeAny _ _ (.compStart _ 0 (.ref s.heap.objs.size) (.ref (s.heap.push (liObj l (0 : Nat))).objs.size) (compEnvC scope ((x, (((s.heap.push (liObj l (0 : Nat))).push (lstO [])).push { cls := .type "dict", data := .dict #[] }).objs.size) :: clo) ((s.heap.push (liObj l (0 : Nat))).push (lstO [])).objs.size env))
    (compPost (model prog w) A E use Q (.ref (s.heap.push (liObj l (0 : Nat))).objs.size) ((s.heap.push (liObj l (0 : Nat))).push (lstO [])).objs.size) ⟨((((s.heap.push (liObj l (0 : Nat))).push (lstO [])).push { cls := .type "dict", data := .dict #[] }).push { cls := .type "cell", data := .cell none }), s.gens, s.drawn, s.toks, s.os⟩
  generalize ((((s.heap.push (liObj l (0 : Nat))).push (lstO [])).push { cls := .type "dict", data := .dict #[] }).push { cls := .type "cell", data := .cell none }) = h₁ at *
  generalize (((s.heap.push (liObj l (0 : Nat))).push (lstO [])).push { cls := .type "dict", data := .dict #[] }).objs.size = X at *
  generalize ((s.heap.push (liObj l (0 : Nat))).push (lstO [])).objs.size = Cn at *
  generalize (s.heap.push (liObj l (0 : Nat))).objs.size = D at *
  generalize hI : s.heap.objs.size = I at *
  have nC0 : LCg.NsObj { cls := .type "dict", data := .dict #[] } (fun _ => none) := ⟨_, _, rfl, by intro _ h; simp at h, fun _ => rfl⟩
  generalize ({ cls := .type "dict", data := .dict #[] } : Obj) = oC at *
  have d1 : I < D := by omega
  have d2 : D < Cn := by omega
  have d3 : Cn < X := by omega
  have rI : ∀ (oX oC oD : Obj), ∀ q ∈ (X, oX) :: (Cn, oC) :: (D, oD) :: news, q.1 ≠ I := fun _ _ _ => List.forall_mem_cons.2 ⟨neN (by omega), List.forall_mem_cons.2 ⟨neN (by omega), List.forall_mem_cons.2 ⟨neN (by omega), fun q hq => Nat.ne_of_lt (ltn q hq)⟩⟩⟩
  have rX : ∀ (oI oC oD : Obj), ∀ q ∈ (I, oI) :: (Cn, oC) :: (D, oD) :: news, q.1 ≠ X := fun _ _ _ => List.forall_mem_cons.2 ⟨neN (by omega), List.forall_mem_cons.2 ⟨neN (by omega), List.forall_mem_cons.2 ⟨neN (by omega), fun q hq => Nat.ne_of_lt (Nat.lt_trans (ltn q hq) (by omega))⟩⟩⟩
  have rD : ∀ (oI oX oC : Obj), ∀ q ∈ (I, oI) :: (X, oX) :: (Cn, oC) :: news, q.1 ≠ D := fun _ _ _ => List.forall_mem_cons.2 ⟨neN (by omega), List.forall_mem_cons.2 ⟨neN (by omega), List.forall_mem_cons.2 ⟨neN (by omega), fun q hq => Nat.ne_of_lt (Nat.lt_trans (ltn q hq) (by omega))⟩⟩⟩
  have loop : codeAny (model prog w) A (.compLoop (.ListComp elt [⟨.Name x px, iter, ifs, 0⟩] scope pos) 0 (.ref I) (.ref D) (compEnvC scope ((x, X) :: clo) Cn env)) (compPost (model prog w) A E use Q (.ref D) Cn) ⟨h₁, s.gens, s.drawn, s.toks, s.os⟩ := by
    refine codeAny_compLoop_tests (fun k s' => ∃ h' tk i ys v₀ oX, s' = { s with heap := h', toks := tk } ∧ i ≤ xs.size ∧ k = xs.size + 1 - i ∧ P i ys tk ∧ s.toks ≤ tk ∧ ys.length ≤ i ∧ oX.data = .cell v₀ ∧
      Cx w p loose mean mg mb A₀ base outer h₀ L m h' ((I, liObj l (i : Nat)) :: (X, oX) :: (Cn, oC) :: (D, lstO ys) :: news)) ?_ (xs.size + 1) ⟨h₁, _, 0, [], none, _, rfl, Nat.zero_le _, rfl, hP0, Nat.le_refl _, Nat.le_refl _, rfl, C4.sub (by tb_start)⟩
    rintro k s' ⟨h', tk, i, ys, v₀, oX, rfl, hi, rfl, hP, htk, hyl, hoX, C'⟩
    by_cases hlt : i < xs.size
    · refine li_next (s := { s with heap := h', toks := tk }) C'.F C'.N (rI _ _ _) (.tail _ (.tail _ (.tail _ hm))) (Array.getElem?_eq_getElem hlt) fun h2 F2 N2 => ?_
      have CX : Cx w p loose mean mg mb A₀ base outer h₀ L m h2 ((X, oX) :: (I, liObj l (i + 1 : Nat)) :: (Cn, oC) :: (D, lstO ys) :: news) := (Cx.mk C'.B F2 C'.X N2 C'.T C'.XB C'.TB).sub (by tb_start)
      refine wpAny_assign_Name (store_cell (s := { s with heap := h2, toks := tk }) CX (rX _ _ _) (by simp [compEnvC, relabel, hkind]) (hx Cn X) (by simp [compEnvC]) hoX fun h₃ oX' hoX' CC => ?_)
      refine wpAny_mono (turn i xs[i] I Cn D X oC oX' ys h₃ _ _ hlt (Array.getElem?_eq_getElem hlt) hP htk hoX' d1 d2 d3 ltn (CC.sub (by tb_start))) (fun ok s₃ h => ?_) fun _ _ e => e
      cases ok with
      | false =>
        simp only [Bool.false_eq_true, if_false] at h ⊢
        obtain ⟨h4, tk4, rfl, htk4, hP4, C4'⟩ := h
        exact ⟨xs.size + 1 - (i + 1), Ar.dec hlt, h4, tk4, i + 1, ys, _, oX', rfl, hlt, rfl, hP4, Nat.le_trans htk htk4, Nat.le_succ_of_le hyl, hoX', C4'⟩
      | true =>
        simp only [if_true] at h ⊢
        refine wpAny_mono h (fun y s₄ h => ?_) fun _ _ e => e
        obtain ⟨h4, tk4, rfl, htk4, hP4, C4'⟩ := h
        refine append_at (hsz := by show ys.toArray.size ≤ sizeLine; rw [List.size_toArray]; omega) (C4'.N _ (.tail _ (.tail _ (.tail _ (.head _))))).1 fun h₅ hs₅ hD₅ => ?_
        have CD : Cx w p loose mean mg mb A₀ base outer h₀ L m h4 ((D, lstO ys) :: (I, liObj l (i + 1 : Nat)) :: (X, oX') :: (Cn, oC) :: news) := C4'.sub (by tb_start)
        have C5 := CD.setHead (rD _ _ _) hs₅ (hD₅.trans (congrArg some (lstO_snoc ys y)))
        exact ⟨xs.size + 1 - (i + 1), Ar.dec hlt, h₅, tk4, i + 1, ys ++ [y], _, oX', rfl, hlt, rfl, hP4, Nat.le_trans htk htk4, by rw [List.length_append, List.length_singleton]; exact Nat.succ_le_succ hyl, hoX', C5.sub (by tb_start)⟩
    · obtain rfl : i = xs.size := Nat.le_antisymm hi (Nat.not_lt.mp hlt)
      refine li_stop (s := { s with heap := h', toks := tk }) hh C'.F C'.N (rI _ _ _) (.tail _ (.tail _ (.tail _ hm))) (Array.getElem?_eq_none (Nat.le_refl _)) fun h2 F2 N2 => ?_
      have hC2 := N2 _ (.tail _ (.head _))
      exact fin D Cn h2 tk ys _ hP htk (nC0.ns hC2.1) hC2.2.1 hC2.2.2 (Nat.ne_of_gt d2) (fun q hq => ⟨Nat.lt_trans (ltn q hq) (by omega), Nat.lt_trans (ltn q hq) (by omega)⟩) ⟨C'.B, F2, C'.X, fun q hq => by
        rcases List.mem_cons.1 hq with rfl | hq
        · exact N2 _ (.tail _ (.tail _ (.head _)))
        · exact N2 _ (.tail _ (.tail _ (.tail _ hq))), C'.T, C'.XB, C'.TB⟩
  refine codeAny_compStart_list loop ((Walks.list hh I l ?_ xs).self 0 _ _ _ ⟨⟨_, (C4.N _ (.tail _ (.tail _ (.tail _ (.head _))))).1, rfl, rfl⟩, News.isList C4.N (.tail _ (.tail _ (.tail _ (.tail _ hm))))⟩ loop)
  exact Nat.ne_of_lt (ltn _ hm)
end

section
variable {prog : Program} {w : World} {p : Program} {loose : List Str} {mean : ExcName → Option Value} {mg mb : Str → Option Value} {A₀ A : Around} {base h₀ h h' : Heap} {outer : List Env} {L : Addr} {m : Str → Option Value} {news rest : List (Addr × Obj)} {s : Shared} {E : Value → Shared → Prop} {env : Env}
theorem comp_eval {elt iter : Expr} {ifs : List Expr} {x : Str} {px pos : Pos} {scope : Scope} {clo : List (Str × Addr)} {l c : Nat} {xs : Array Value} {P : Nat → List Value → Nat → Prop} {Q : Value → Shared → Prop}
    (C : Cx w p loose mean mg mb A₀ base outer h₀ L m s.heap news) (hh : A.handled = none) (hclos : closureFor scope env = pure clo) (hcell : ∀ y ∈ scope.names, y.2 ≠ .cell) (hkind : scope.kind = .function)
    (hnames : ∀ y ∈ scope.names, y.2 = .local → scope.names.lookup y.1 = some .local) (hx : scope.names.lookup x = some .local) (hs : ∀ x, foldedSetIterable iter env x = pure x)
    (hiter : ∀ Q' : Value → Shared → Prop, Q' (.ref l) s → wpAny (model prog w) A (eval iter env) Q' E s) (hm : (l, listOf xs c) ∈ news) (hsz : xs.size ≤ sizeLine) (hP0 : P 0 [] s.toks) (hmo : ∀ i ys tk tk', tk ≤ tk' → P i ys tk → P i ys tk')
    (turn : ∀ (i : Nat) (v : Value) (I Cn D : Nat) (oC : Obj) (m₂ : Str → Option Value) (ys : List Value) (h : Heap) (tk : Nat) (E' : Value → Shared → Prop), i < xs.size → xs[i]? = some v → P i ys tk → s.toks ≤ tk → LCg.NsObj oC m₂ → m₂ x = some v →
      I ≠ Cn → I ≠ D → Cn ≠ D → (∀ q ∈ news, q.1 < I ∧ q.1 < Cn ∧ q.1 < D) → Cx w p loose mean mg mb A₀ base outer h₀ L m h ((I, liObj l (i + 1 : Nat)) :: (Cn, oC) :: (D, lstO ys) :: news) →
      wpAny (model prog w) A (forIn ifs true fun c r => if r = true then do let ok ← isTrue c (compEnvC scope clo Cn env) (eval c (compEnvC scope clo Cn env)); pure (ForInStep.yield ok) else pure (ForInStep.yield r))
        (fun ok s₃ => if ok = true then wpAny (model prog w) A (eval elt (compEnvC scope clo Cn env)) (fun y s₄ => TurnTo w p loose mean mg mb A₀ base outer h₀ L m s ((I, liObj l (i + 1 : Nat)) :: (Cn, oC) :: (D, lstO ys) :: news) tk (P (i + 1)) (ys ++ [y]) s₄) E' s₃
          else TurnTo w p loose mean mg mb A₀ base outer h₀ L m s ((I, liObj l (i + 1 : Nat)) :: (Cn, oC) :: (D, lstO ys) :: news) tk (P (i + 1)) ys s₃) E' { s with heap := h, toks := tk })
    (fin : ∀ (D : Nat) (h : Heap) (tk : Nat) (ys : List Value), P xs.size ys tk → s.toks ≤ tk → (∀ q ∈ news, q.1 < D) → Cx w p loose mean mg mb A₀ base outer h₀ L m h ((D, lstO ys) :: news) → Q (.ref D) { s with heap := h, toks := tk }) :
    wpAny (model prog w) A (eval (.ListComp elt [⟨.Name x px, iter, ifs, 0⟩] scope pos) env) Q E s := by
  rw [eval_ListComp]
  refine comp_L (use := none) C hh hclos hcell hkind hnames hx hs hiter hm hsz hP0 hmo turn fun D Cn h tk ys m' hP htk hns n1 n2 n3 lt C' => ⟨m', hns, fun h' hs' => fin D h' tk ys hP htk (fun q hq => (lt q hq).1) ?_⟩
  refine ⟨C'.B, C'.F.change hs' n1 n2, C'.X, fun q hq => ⟨hs'.extBut _ _ ?_ (C'.N q hq).1, (C'.N q hq).2⟩, C'.T, C'.XB, C'.TB⟩
  rcases List.mem_cons.1 hq with rfl | hq
  · exact Ne.symm n3
  · exact Nat.ne_of_lt (lt q hq).2
theorem comp_assign {elt iter : Expr} {ifs : List Expr} {x y : Str} {px py pos spos : Pos} {scope : Scope} {clo : List (Str × Addr)} {l c : Nat} {xs : Array Value} {P : Nat → List Value → Nat → Prop} {Q : Flow → Shared → Prop}
    (C : Cx w p loose mean mg mb A₀ base outer h₀ L m s.heap news) (hL : env.locals = L) (hsw : swapsWith (.ListComp elt [⟨.Name x px, iter, ifs, 0⟩] scope pos) (some (.Name y py)) spos.line env = pure true)
    (hy : env.kindOf y = some .local) (hp : (env.scope.kind == .class || (env.scope.kind == .module && env.locals != env.globals)) = false)
    (hh : A.handled = none) (hclos : closureFor scope env = pure clo) (hcell : ∀ y ∈ scope.names, y.2 ≠ .cell) (hkind : scope.kind = .function)
    (hnames : ∀ y ∈ scope.names, y.2 = .local → scope.names.lookup y.1 = some .local) (hx : scope.names.lookup x = some .local) (hs : ∀ x, foldedSetIterable iter env x = pure x)
    (hiter : ∀ Q' : Value → Shared → Prop, Q' (.ref l) s → wpAny (model prog w) A (eval iter env) Q' E s) (hm : (l, listOf xs c) ∈ news) (hsz : xs.size ≤ sizeLine) (hP0 : P 0 [] s.toks) (hmo : ∀ i ys tk tk', tk ≤ tk' → P i ys tk → P i ys tk')
    (turn : ∀ (i : Nat) (v : Value) (I Cn D : Nat) (oC : Obj) (m₂ : Str → Option Value) (ys : List Value) (h : Heap) (tk : Nat) (E' : Value → Shared → Prop), i < xs.size → xs[i]? = some v → P i ys tk → s.toks ≤ tk → LCg.NsObj oC m₂ → m₂ x = some v →
      I ≠ Cn → I ≠ D → Cn ≠ D → (∀ q ∈ news, q.1 < I ∧ q.1 < Cn ∧ q.1 < D) → Cx w p loose mean mg mb A₀ base outer h₀ L m h ((I, liObj l (i + 1 : Nat)) :: (Cn, oC) :: (D, lstO ys) :: news) →
      wpAny (model prog w) A (forIn ifs true fun c r => if r = true then do let ok ← isTrue c (compEnvC scope clo Cn env) (eval c (compEnvC scope clo Cn env)); pure (ForInStep.yield ok) else pure (ForInStep.yield r))
        (fun ok s₃ => if ok = true then wpAny (model prog w) A (eval elt (compEnvC scope clo Cn env)) (fun y s₄ => TurnTo w p loose mean mg mb A₀ base outer h₀ L m s ((I, liObj l (i + 1 : Nat)) :: (Cn, oC) :: (D, lstO ys) :: news) tk (P (i + 1)) (ys ++ [y]) s₄) E' s₃
          else TurnTo w p loose mean mg mb A₀ base outer h₀ L m s ((I, liObj l (i + 1 : Nat)) :: (Cn, oC) :: (D, lstO ys) :: news) tk (P (i + 1)) ys s₃) E' { s with heap := h, toks := tk })
    (fin : ∀ (D : Nat) (h : Heap) (tk : Nat) (ys : List Value), P xs.size ys tk → s.toks ≤ tk → (∀ q ∈ news, q.1 < D) → Cx w p loose mean mg mb A₀ base outer h₀ L (fun z => if z = y then some (.ref D) else m z) h ((D, lstO ys) :: news) → Q .next { s with heap := h, toks := tk + 1 }) :
    wpAny (model prog w) A (exec (.Assign [.Name y py] (.ListComp elt [⟨.Name x px, iter, ifs, 0⟩] scope pos) spos) env) Q E s := by
  rw [exec_Assign_Name_used _ _ _ _ hsw]
  refine wpAny_bind (wpAny_standAt (wpAny_bind ?_))
  show wpAny _ A (do let _ ← comprehension (.ListComp elt [⟨.Name x px, iter, ifs, 0⟩] scope pos) scope env _ (newList []) false (eval iter env) (some (assign (.Name y py) env))) _ _ s
  refine wpAny_bind (wpAny_mono (Q := fun _ s' => Q .next s') (comp_L (use := some (assign (.Name y py) env)) C hh hclos hcell hkind hnames hx hs hiter hm hsz hP0 hmo turn fun D Cn h tk ys m' hP htk hns n1 n2 n3 lt C' => ?_) (fun _ s' hq => wpAny_pure (wpAny_pure hq)) fun _ _ e => e)
  show wpAny _ A (assign (.Name y py) env (.ref D)) _ _ _
  subst hL
  refine wpAny_assign_Name (wpAny_storeName_local hy C'.F.ns (fun h₂ hn₂ hs₂ => ?_) hp)
  have hL₀ : h₀.get? env.locals = none := Heap.get?_none_of_le C'.F.above
  have F₂ : Fr h₀ env.locals h₂ (fun z => if z = y then some (.ref D) else m z) := ⟨hn₂, fun b o e => hs₂.extBut b o (fun q => by have q' : b = env.locals := q; rw [q', hL₀] at e; cases e) (C'.F.keep b o e), C'.F.above⟩
  refine ⟨m', hns.sameBut hs₂ n1, fun h' hs' => fin D h' _ ys hP htk (fun q hq => (lt q hq).1) ⟨C'.B, F₂.change hs' n1 n2, C'.X, fun q hq => ?_, C'.T, C'.XB, C'.TB⟩⟩
  have z : h₂.get? q.1 = some q.2 := hs₂.extBut _ _ (C'.N q hq).2.1 (C'.N q hq).1
  refine ⟨hs'.extBut _ _ ?_ z, (C'.N q hq).2⟩
  rcases List.mem_cons.1 hq with rfl | hq
  · exact Ne.symm n3
  · exact Nat.ne_of_lt (lt q hq).2
theorem compX_eval {elt iter : Expr} {ifs : List Expr} {x : Str} {px pos : Pos} {scope : Scope} {clo : List (Str × Addr)} {l c : Nat} {xs : Array Value} {P : Nat → List Value → Nat → Prop} {Q : Value → Shared → Prop}
    (C : Cx w p loose mean mg mb A₀ base outer h₀ L m s.heap news) (hh : A.handled = none) (hclos : closureFor scope env = pure clo) (hcs : ∀ n, cellsFrom n scope.names clo = (x, n) :: clo) (hps : ∀ h, pushCells h scope.names = h.push { cls := .type "cell", data := .cell none }) (hkind : scope.kind = .function)
    (hnames : ∀ y ∈ scope.names, y.2 = .local → scope.names.lookup y.1 = some .local) (hx : ∀ (Cn X : Nat), (compEnvC scope ((x, X) :: clo) Cn env).kindOf x = some .cell) (hs : ∀ x, foldedSetIterable iter env x = pure x)
    (hiter : ∀ Q' : Value → Shared → Prop, Q' (.ref l) s → wpAny (model prog w) A (eval iter env) Q' E s) (hm : (l, listOf xs c) ∈ news) (hsz : xs.size ≤ sizeLine) (hP0 : P 0 [] s.toks) (hmo : ∀ i ys tk tk', tk ≤ tk' → P i ys tk → P i ys tk')
    (turn : ∀ (i : Nat) (v : Value) (I Cn D X : Nat) (oC oX : Obj) (ys : List Value) (h : Heap) (tk : Nat) (E' : Value → Shared → Prop), i < xs.size → xs[i]? = some v → P i ys tk → s.toks ≤ tk → oX.data = .cell (some v) →
      I < D → D < Cn → Cn < X → (∀ q ∈ news, q.1 < I) → Cx w p loose mean mg mb A₀ base outer h₀ L m h ((I, liObj l (i + 1 : Nat)) :: (X, oX) :: (Cn, oC) :: (D, lstO ys) :: news) →
      wpAny (model prog w) A (forIn ifs true fun c r => if r = true then do let ok ← isTrue c (compEnvC scope ((x, X) :: clo) Cn env) (eval c (compEnvC scope ((x, X) :: clo) Cn env)); pure (ForInStep.yield ok) else pure (ForInStep.yield r))
        (fun ok s₃ => if ok = true then wpAny (model prog w) A (eval elt (compEnvC scope ((x, X) :: clo) Cn env)) (fun y s₄ => TurnTo w p loose mean mg mb A₀ base outer h₀ L m s ((I, liObj l (i + 1 : Nat)) :: (X, oX) :: (Cn, oC) :: (D, lstO ys) :: news) tk (P (i + 1)) (ys ++ [y]) s₄) E' s₃
          else TurnTo w p loose mean mg mb A₀ base outer h₀ L m s ((I, liObj l (i + 1 : Nat)) :: (X, oX) :: (Cn, oC) :: (D, lstO ys) :: news) tk (P (i + 1)) ys s₃) E' { s with heap := h, toks := tk })
    (fin : ∀ (D : Nat) (h : Heap) (tk : Nat) (ys : List Value), P xs.size ys tk → s.toks ≤ tk → (∀ q ∈ news, q.1 < D) → Cx w p loose mean mg mb A₀ base outer h₀ L m h ((D, lstO ys) :: news) → Q (.ref D) { s with heap := h, toks := tk }) :
    wpAny (model prog w) A (eval (.ListComp elt [⟨.Name x px, iter, ifs, 0⟩] scope pos) env) Q E s := by
  rw [eval_ListComp]
  refine comp_X (use := none) C hh hclos hcs hps hkind hnames hx hs hiter hm hsz hP0 hmo turn fun D Cn h tk ys m' hP htk hns n1 n2 n3 lt C' => ⟨m', hns, fun h' hs' => fin D h' tk ys hP htk (fun q hq => (lt q hq).1) ?_⟩
  refine ⟨C'.B, C'.F.change hs' n1 n2, C'.X, fun q hq => ⟨hs'.extBut _ _ ?_ (C'.N q hq).1, (C'.N q hq).2⟩, C'.T, C'.XB, C'.TB⟩
  rcases List.mem_cons.1 hq with rfl | hq
  · exact Ne.symm n3
  · exact Nat.ne_of_lt (lt q hq).2
end

namespace OO
open PySem PyProof.Rows
/-- a list of octet texts, their tokens ascending -/
noncomputable def Keys (key : Nat → Array UInt8) (ns : List Nat) (i : Nat) (ys : List Value) (tk : Nat) : Prop :=
  ∃ ks : List (Array UInt8 × Tok), ys = ks.map (fun p => Value.bytes p.1 p.2) ∧ ks.map (·.1) = (ns.take i).map key ∧ (∀ p ∈ ks, 0 < p.2 ∧ p.2 < tk) ∧ (ks.map (·.2)).Pairwise (fun a b => a ≠ b) ∧ 0 < tk
theorem Keys.zero {key : Nat → Array UInt8} {ns : List Nat} {tk : Nat} (h : 0 < tk) : Keys key ns 0 [] tk := ⟨[], rfl, rfl, (fun p hp => by cases hp), List.Pairwise.nil, h⟩
theorem Keys.mono {key : Nat → Array UInt8} {ns : List Nat} {i : Nat} {ys : List Value} {tk tk' : Nat} (h : tk ≤ tk') : Keys key ns i ys tk → Keys key ns i ys tk'
  | ⟨ks, a, b, c, d, e⟩ => ⟨ks, a, b, fun p hp => ⟨(c p hp).1, Nat.lt_of_lt_of_le (c p hp).2 h⟩, d, Nat.lt_of_lt_of_le e h⟩
theorem Keys.step {key : Nat → Array UInt8} {ns : List Nat} {i : Nat} {ys : List Value} {tk tk' : Nat} {t : Tok} {b : Array UInt8} (h : Keys key ns i ys tk) (hi : i < ns.length) (hb : b = key (ns.getD i 0)) (h1 : tk ≤ t) (h2 : @LT.lt Nat _ t tk') :
    Keys key ns (i + 1) (ys ++ [.bytes b t]) tk' := by
  obtain ⟨ks, a, hk, c, d, e⟩ := h
  refine ⟨ks ++ [(b, t)], by rw [a, List.map_append]; rfl, ?_, ?_, ?_, Nat.lt_of_le_of_lt (Nat.zero_le _) h2⟩
  · rw [List.map_append, hk, List.take_add_one, List.map_append, List.getElem?_eq_getElem hi]
    rw [hb, List.getD, List.getElem?_eq_getElem hi]; rfl
  · intro p hp
    rcases List.mem_append.1 hp with hp | hp
    · exact ⟨(c p hp).1, Nat.lt_of_lt_of_le (c p hp).2 (Nat.le_of_lt (Nat.lt_of_le_of_lt h1 h2))⟩
    · rw [List.mem_singleton.1 hp]
      exact ⟨Nat.lt_of_lt_of_le e h1, h2⟩
  · rw [List.map_append, List.pairwise_append]
    refine ⟨d, by simp, fun u hu v hv => ?_⟩
    obtain ⟨p, hp, rfl⟩ := List.mem_map.1 hu
    simp only [List.map_cons, List.map_nil, List.mem_singleton] at hv
    subst hv
    exact Nat.ne_of_lt (Nat.lt_of_lt_of_le (c p hp).2 h1)
structure KeyList (key : Nat → Array UInt8) (ns : List Nat) (ks : List (Array UInt8 × Tok)) : Prop where
  len : ks.length = ns.length
  key : ∀ i, i < ns.length → (ks.getD i (#[], 0)).1 = key (ns.getD i 0)
  tok : ∀ i, i < ns.length → (ks.getD i (#[], 0)).2 ≠ 0
  unlike : ∀ i j, i < ns.length → j < ns.length → i ≠ j → (ks.getD i (#[], 0)).2 ≠ (ks.getD j (#[], 0)).2
theorem Keys.list {key : Nat → Array UInt8} {ns : List Nat} {ys : List Value} {tk : Nat} (h : Keys key ns ns.length ys tk) : ∃ ks, ys = ks.map (fun p => Value.bytes p.1 p.2) ∧ KeyList key ns ks := by
  obtain ⟨ks, a, hk, c, d, e⟩ := h
  rw [List.take_length] at hk
  have hl : ks.length = ns.length := by have := congrArg List.length hk; simpa using this
  refine ⟨ks, a, hl, fun i hi => ?_, fun i hi => ?_, fun i j hi hj hij => ?_⟩
  · have h1 : (ks.map (·.1))[i]? = (ns.map key)[i]? := by rw [hk]
    rw [List.getElem?_map, List.getElem?_map, List.getElem?_eq_getElem (by omega), List.getElem?_eq_getElem hi] at h1
    rw [List.getD, List.getElem?_eq_getElem (by omega), List.getD, List.getElem?_eq_getElem hi]
    simpa using h1
  · rw [List.getD, List.getElem?_eq_getElem (by omega)]
    exact Nat.ne_of_gt (c _ (List.getElem_mem _)).1
  · rw [List.getD, List.getElem?_eq_getElem (by omega), List.getD, List.getElem?_eq_getElem (by omega)]
    have nd : (ks.map (·.2)).Nodup := d
    intro q
    refine hij ((List.getElem_inj (i := i) (j := j) (h₀ := by simpa using (by omega : i < ks.length)) (h₁ := by simpa using (by omega : j < ks.length)) nd).1 ?_)
    simpa using q
theorem KeyList.at {key : Nat → Array UInt8} {ns : List Nat} {ks : List (Array UInt8 × Tok)} (h : KeyList key ns ks) {i : Nat} {v : Value} (e : (ks.map (fun p => Value.bytes p.1 p.2)).toArray[i]? = some v) : i < ns.length ∧ ∃ t, v = .bytes (key (ns.getD i 0)) t := by
  rw [List.getElem?_toArray, List.getElem?_map] at e
  rcases Nat.lt_or_ge i ks.length with hi | hi
  · have hk := h.key i (by rw [← h.len]; exact hi)
    rw [List.getD, List.getElem?_eq_getElem hi] at hk
    rw [List.getElem?_eq_getElem hi] at e
    simp only [Option.map_some, Option.some.injEq] at e
    exact ⟨by rw [← h.len]; exact hi, _, by rw [← e, ← hk]; rfl⟩
  · rw [List.getElem?_eq_none hi] at e; simp at e
end OO

namespace OO
open PySem PyProof.Rows
/-- the counts of a list's first members -/
noncomputable def Cnts (f : Nat → Nat → Bool) (ns : List Nat) (i : Nat) (ys : List Value) : Prop := IntsAre ys ((ns.take i).map fun a => ((ns.countP (f a) : Nat) : Int))
theorem Cnts.zero {f : Nat → Nat → Bool} {ns : List Nat} : Cnts f ns 0 [] := by unfold Cnts; rw [List.take_zero]; exact .nil
theorem take_snoc {ns : List Nat} {i : Nat} (hi : i < ns.length) : ns.take (i + 1) = ns.take i ++ [ns.getD i 0] := by
  rw [List.take_add_one, List.getElem?_eq_getElem hi, List.getD, List.getElem?_eq_getElem hi]; rfl
theorem Cnts.step {f : Nat → Nat → Bool} {ns : List Nat} {i : Nat} {ys : List Value} {b : Int} {t : Tok} (h : Cnts f ns i ys) (hi : i < ns.length) (hb : b = ((ns.countP (f (ns.getD i 0)) : Nat) : Int)) : Cnts f ns (i + 1) (ys ++ [.int b t]) := by
  unfold Cnts at *
  rw [take_snoc hi, List.map_append]
  refine h.append ?_
  rw [hb]
  exact .cons _ _ .nil
theorem Cnts.all {f : Nat → Nat → Bool} {ns : List Nat} {ys : List Value} (h : Cnts f ns ns.length ys) : IntsAre ys (ns.map fun a => ((ns.countP (f a) : Nat) : Int)) := by
  unfold Cnts at h; rwa [List.take_length] at h
/-- how many of the first members there are -/
noncomputable def Cnt1 (g : Nat → Bool) (ns : List Nat) (j : Nat) (ys : List Value) : Prop := ys.length = (ns.take j).countP g
theorem Cnt1.zero {g : Nat → Bool} {ns : List Nat} : Cnt1 g ns 0 [] := by simp [Cnt1]
theorem Cnt1.yes {g : Nat → Bool} {ns : List Nat} {j : Nat} {ys : List Value} {y : Value} (h : Cnt1 g ns j ys) (hj : j < ns.length) (hg : g (ns.getD j 0) = true) : Cnt1 g ns (j + 1) (ys ++ [y]) := by
  unfold Cnt1 at *
  rw [take_snoc hj, List.countP_append, List.length_append, h, List.countP_cons, hg]; rfl
theorem Cnt1.no {g : Nat → Bool} {ns : List Nat} {j : Nat} {ys : List Value} (h : Cnt1 g ns j ys) (hj : j < ns.length) (hg : g (ns.getD j 0) = false) : Cnt1 g ns (j + 1) ys := by
  unfold Cnt1 at *
  rw [take_snoc hj, List.countP_append, h, List.countP_cons, hg]; rfl
theorem Cnt1.all {g : Nat → Bool} {ns : List Nat} {ys : List Value} (h : Cnt1 g ns ns.length ys) : ys.length = ns.countP g := by
  unfold Cnt1 at h; rwa [List.take_length] at h
/-- a list's item, as a number below 65536 -/
theorem item_of {xs : Array Value} {ns : List Nat} (hi : IntsAre xs.toList (ns.map Int.ofNat)) {i : Nat} {v : Value} (hv : xs[i]? = some v) : i < ns.length ∧ ∃ t, v = .int ((ns.getD i 0 : Nat) : Int) t := by
  obtain ⟨n, t, rfl, hn⟩ := hi.at i v (by simpa using hv)
  rw [List.getElem?_map] at hn
  rcases Nat.lt_or_ge i ns.length with h | h
  · refine ⟨h, t, ?_⟩
    rw [List.getElem?_eq_getElem h] at hn
    rw [List.getD, List.getElem?_eq_getElem h]
    simp only [Option.map_some, Option.some.injEq] at hn
    rw [← hn]; rfl
  · rw [List.getElem?_eq_none h] at hn; cases hn
theorem getD_lt {ns : List Nat} (h : ∀ a ∈ ns, a < 65536) {i : Nat} (hi : i < ns.length) : ns.getD i 0 < 65536 := by
  rw [List.getD, List.getElem?_eq_getElem hi]; exact h _ (List.getElem_mem _)
end OO
namespace OO
open PySem PyProof.Rows
theorem ints_of_at : ∀ {ys : List Value} {f : Nat → Int} {n : Nat}, ys.length = n → (∀ (i : Nat) (v : Value), ys[i]? = some v → ∃ t, v = .int (f i) t) → IntsAre ys ((List.range n).map f)
  | [], f, n, e, h => by subst e; exact .nil
  | y :: ys, f, n, e, h => by
    subst e
    rw [List.length_cons, List.range_succ_eq_map, List.map_cons, List.map_map]
    obtain ⟨t, rfl⟩ := h 0 y rfl
    exact .cons _ _ (ints_of_at (f := f ∘ Nat.succ) rfl fun i v hv => h (i + 1) v (by simpa using hv))
end OO

namespace OO
theorem cube_pos {n : Nat} (h2 : 2 ≤ n) : 0 < (n : Int) * n * n - n := by
  have h1 : 2 * n ≤ n * n := Nat.mul_le_mul_right _ h2
  have h3 : 2 * n * n ≤ n * n * n := Nat.mul_le_mul_right _ h1
  have h6 : 2 * n * n = 2 * (n * n) := Nat.mul_assoc ..
  have e : ((n * n * n : Nat) : Int) = (n : Int) * n * n := by push_cast; rfl
  omega
theorem cube_lt {n : Nat} (hn : n < 64) : (n : Int) * n * n < 2 ^ 18 := by
  have h4 : n * n ≤ 63 * 63 := Nat.mul_le_mul (by omega) (by omega)
  have h5 : n * n * n ≤ 63 * 63 * 63 := Nat.mul_le_mul h4 (by omega)
  have e : ((n * n * n : Nat) : Int) = (n : Int) * n * n := by push_cast; rfl
  omega
/-- the squares of how far the places lie apart -/
noncomputable def sumA (fp fq : List Int) (n : Nat) : Int := ((List.range n).map fun k => (fp.getD k 0 - fq.getD k 0) * (fp.getD k 0 - fq.getD k 0)).sum
theorem sum_bound {f : Nat → Int} {b : Int} : ∀ {n : Nat}, (∀ k, k < n → 0 ≤ f k ∧ f k ≤ b) → 0 ≤ ((List.range n).map f).sum ∧ ((List.range n).map f).sum ≤ b * n
  | 0, _ => by simp
  | n + 1, h => by
    have ih := sum_bound (n := n) fun k hk => h k (Nat.lt_succ_of_lt hk)
    have hn := h n (Nat.lt_succ_self n)
    rw [List.range_succ, List.map_append, List.sum_append_int]
    simp only [List.map_cons, List.map_nil, List.sum_cons, List.sum_nil, Int.add_zero]
    have e : b * ((n + 1 : Nat) : Int) = b * n + b := by push_cast; rw [Int.mul_add, Int.mul_one]
    omega
theorem sumA_bound {fp fq : List Int} {n : Nat} (bp : ∀ k, 0 ≤ fp.getD k 0 ∧ fp.getD k 0 < 64) (bq : ∀ k, 0 ≤ fq.getD k 0 ∧ fq.getD k 0 < 64) (hn : n < 64) : 0 ≤ sumA fp fq n ∧ sumA fp fq n < 2 ^ 20 := by
  have h := sum_bound (f := fun k => (fp.getD k 0 - fq.getD k 0) * (fp.getD k 0 - fq.getD k 0)) (b := 4096) (n := n) fun k hk => by
    have h1 := bp k
    have h2 := bq k
    generalize fp.getD k 0 = x at *
    generalize fq.getD k 0 = y at *
    have e : (x - y) * (x - y) = (((x - y).natAbs * (x - y).natAbs : Nat) : Int) := by push_cast; exact (Int.natAbs_mul_self' (x - y)).symm
    have h3 : (x - y).natAbs * (x - y).natAbs ≤ 64 * 64 := Nat.mul_le_mul (by omega) (by omega)
    rw [e]; omega
  unfold sumA
  omega
end OO

namespace OO
theorem rk_congr {n : Nat} {f g : Nat → Array UInt8} (h : ∀ j, j < n → f j = g j) {i : Nat} (hi : i < n) : rk n f i = rk n g i := by
  unfold rk
  refine List.countP_congr fun j hj => ?_
  rw [h j (List.mem_range.1 hj), h i hi]
end OO

section
variable {w : World} {p : Program} {loose : List Str} {mean : ExcName → Option Value} {mg mb : Str → Option Value} {dp un : Nat} {gd : Option (List Code)} {outer : List Env} {A₀ : Around} {base h₀ : Heap} {L : Addr} {m : Str → Option Value} {news rest : List (Addr × Obj)} {s : Shared} {E : Value → Shared → Prop}
noncomputable abbrev lawEnv (L : Addr) : Env := envOfC (Str.ofString "law") (scOf (topSt 39)) L 497 (.ref 496)
noncomputable abbrev lawA (dp un : Nat) (gd : Option (List Code)) (L : Addr) (outer : List Env) : Around := ktrTop dp un gd (Str.ofString "law") (scOf (topSt 39)) L 497 (.ref 496) (cellsFrom (L + 1) (scOf (topSt 39)).names []) outer
theorem div256 (n : Nat) : ((n : Int)).fdiv 256 = ((n / 256 : Nat) : Int) := by rw [Int.fdiv_eq_ediv_of_nonneg _ (by decide)]; rfl
theorem mod256 (n : Nat) : ((n : Int)).fmod 256 = ((n % 256 : Nat) : Int) := by rw [Int.fmod_eq_emod_of_nonneg _ (by decide)]; rfl
set_option maxRecDepth 100000 in
set_option maxHeartbeats 2000000 in
theorem pairs_step {l c : Nat} {xs : Array Value} {ns : List Nat} {o2 : Obj} {Q : Flow → Shared → Prop} (C : Cx w p loose mean mg mb A₀ base outer h₀ L m s.heap news) (hd : dp + 8 < recursionLimit) (hu : un + 40 < cLine) (htk : 0 < s.toks)
  (m1 : (l, listOf xs c) ∈ news) (hi : IntsAre xs.toList (ns.map Int.ofNat)) (hns : ∀ a ∈ ns, a < 65536) (hz : ns.length < 64) (m2 : (L + 2, o2) ∈ news) (ho2 : o2.data = .cell (some (.ref l)))
  (fin : ∀ (D : Nat) (h : Heap) (tk : Nat) (ys : List Value), OO.Keys (fun a => #[OO.hi a, OO.lo a]) ns ns.length ys tk → s.toks ≤ tk → (∀ q ∈ news, q.1 < D) → Cx w p loose mean mg mb A₀ base outer h₀ L (fun z => if z = Str.ofString "pairs" then some (.ref D) else m z) h ((D, lstO ys) :: news) → Q .next { s with heap := h, toks := tk + 1 }) :
  wpAny (model PySem.Challenge.pw_ij0047_01 w) (lawA dp un gd L outer) (exec (stAt (bodyOf (topSt 39)) 8) (lawEnv L)) Q E s := by
  have hxl : xs.size = ns.length := by have := hi.length; rw [List.length_map, Array.length_toList] at this; exact this
  have hc2 : s.heap.IsCell (L + 2) (some (.ref l)) := ⟨o2, (C.N _ m2).1, ho2⟩
  refine comp_assign (P := OO.Keys (fun a => #[OO.hi a, OO.lo a]) ns) (x := Str.ofString "a") (y := Str.ofString "pairs") (clo := []) C rfl (by with_unfolding_all rfl) rfl rfl rfl (by with_unfolding_all rfl) (by decide) rfl (by decide) rfl (by intro _; with_unfolding_all rfl) (fun Q' hq => wpAny_Name (wpAny_loadName_cell rfl (by with_unfolding_all rfl) (by with_unfolding_all rfl) hc2 hq)) m1 (by rw [hxl, sizeLine_eq]; omega) (.zero htk) (fun i ys tk tk' h h1 => h1.mono h) ?turn ?fin
  case fin =>
    intro D h tk ys hP h1 lt C'
    rw [hxl] at hP
    exact fin D h tk ys hP h1 lt C'
  case turn =>
    intro i v I Cn D oC m₂ ys h tk E' hil hv hP htk1 hoC hmx n1 n2 n3 lt C'
    refine wpAny_tests_nil ?_
    rw [if_pos rfl]
    obtain ⟨n, t, rfl, hn⟩ := hi.at i v (by simpa using hv)
    have hin : i < ns.length := by omega
    have hn' : n = (ns.getD i 0 : Nat) := by
      rw [List.getElem?_map, List.getElem?_eq_getElem hin] at hn
      rw [List.getD, List.getElem?_eq_getElem hin]
      simpa using hn.symm
    obtain ⟨B, F, X, N, T, XB, TB⟩ := C'
    clear C hc2
    k_steps
    rename News _ _ _ _ => N8
    rename Fr _ _ _ _ => F8
    have hlt : ns.getD i 0 < 65536 := by rw [List.getD, List.getElem?_eq_getElem hin]; exact hns _ (List.getElem_mem _)
    have C8 : Cx w p loose mean mg mb _ base _ _ _ _ _ _ := ⟨B, F8, X, N8, T, XB, TB⟩
    refine ⟨BM.bytes_of rfl ⟨_, (N8 _ (.head _)).1, rfl, _, rfl⟩ ?hv ?hz fun h9 hk9 => ?_⟩
    case hv =>
      intro v hv
      have hv' : v ∈ [_, _] := hv
      simp only [List.mem_cons, List.not_mem_nil, or_false] at hv'
      rcases hv' with rfl | rfl
      · exact ⟨_, _, rfl, by rw [hn', div256]; omega, by rw [hn', div256]; omega⟩
      · exact ⟨_, _, rfl, by rw [hn', mod256]; omega, by rw [hn', mod256]; omega⟩
    case hz => show 2 ≤ sizeLine; rw [sizeLine_eq]; decide
    have C9 := C8.keepsH hk9
    have F9 := C9.F
    have N9 := C9.N
    clear C8 C9 F8 N8
    show TurnTo w p loose mean mg mb A₀ base outer h₀ L m s ((I, liObj l (i + 1 : Nat)) :: (Cn, oC) :: (D, lstO ys) :: news) tk _ _ _
    refine ⟨_, _, rfl, ?_, hP.step hin ?_ ?_ (Nat.lt_succ_self _), (Cx.mk B F9 X N9 T XB TB).sub (by tb_start)⟩
    · dsimp only; omega
    · rw [hn', div256, mod256]; rfl
    · dsimp only; omega
end

section
variable {w : World} {p : Program} {loose : List Str} {mean : ExcName → Option Value} {mg mb : Str → Option Value} {dp un : Nat} {gd : Option (List Code)} {outer : List Env} {A₀ : Around} {base h₀ : Heap} {L : Addr} {m : Str → Option Value} {news rest : List (Addr × Obj)} {s : Shared} {E : Value → Shared → Prop}
set_option maxRecDepth 100000 in
set_option maxHeartbeats 2000000 in
theorem plain_step {l c : Nat} {xs : Array Value} {ns : List Nat} {o2 o3 : Obj} {v3 : Option Value} {Q : Flow → Shared → Prop} (C : Cx w p loose mean mg mb A₀ base outer h₀ L m s.heap ((L + 3, o3) :: news)) (hd : dp + 8 < recursionLimit) (hu : un + 40 < cLine)
  (m1 : (l, listOf xs c) ∈ news) (hi : IntsAre xs.toList (ns.map Int.ofNat)) (hz : ns.length < 64) (m2 : (L + 2, o2) ∈ news) (ho2 : o2.data = .cell (some (.ref l))) (ho3 : o3.data = .cell v3) (r : ∀ q ∈ news, q.1 ≠ L + 3)
  (fin : ∀ (D : Nat) (h : Heap) (tk : Nat) (ys : List Value) (o3' : Obj), o3'.data = .cell (some (.ref D)) → IntsAre ys (ns.map fun a => ((ns.countP (fun b => decide (b < a)) : Nat) : Int)) → s.toks ≤ tk → (∀ q ∈ news, q.1 < D) → @LT.lt Nat _ (L + 3) D →
    Cx w p loose mean mg mb A₀ base outer h₀ L m h ((L + 3, o3') :: (D, lstO ys) :: news) → Q .next { s with heap := h, toks := tk }) :
  wpAny (model PySem.Challenge.pw_ij0047_01 w) (lawA dp un gd L outer) (exec (stAt (bodyOf (topSt 39)) 3) (lawEnv L)) Q E s := by
  have hxl : xs.size = ns.length := by have := hi.length; rw [List.length_map, Array.length_toList] at this; exact this
  have hc2 : s.heap.IsCell (L + 2) (some (.ref l)) := ⟨o2, (C.N _ (.tail _ m2)).1, ho2⟩
  refine wpAny_Assign_Name ?_ (by with_unfolding_all rfl)
  refine compX_eval (P := fun i ys _ => OO.Cnts (fun a b => decide (b < a)) ns i ys) (x := Str.ofString "a") (clo := [(Str.ofString "numbers", L + 2)]) C rfl (by with_unfolding_all rfl) (fun _ => rfl) (fun _ => rfl) rfl (by decide) (fun _ _ => by with_unfolding_all rfl) (by intro _; with_unfolding_all rfl) (fun Q' hq => wpAny_Name (wpAny_loadName_cell rfl (by with_unfolding_all rfl) (by with_unfolding_all rfl) hc2 hq)) (.tail _ m1) (by rw [hxl, sizeLine_eq]; omega) OO.Cnts.zero (fun i ys tk tk' h h1 => h1) ?turn ?fin
  case fin =>
    intro D h tk ys hP h1 lt C'
    rw [hxl] at hP
    have l3 : @LT.lt Nat _ (L + 3) D := lt _ (.head _)
    refine store_cell (s := { s with heap := h, toks := tk }) (c := L + 3) (rest := (D, lstO ys) :: news) (C'.sub (by tb_start)) (List.forall_mem_cons.2 ⟨neN (by omega), r⟩) rfl rfl rfl ho3 fun h' o3' ho3' C3 => ?_
    exact fin D h' tk ys o3' ho3' hP.all h1 (fun q hq => lt q (.tail _ hq)) l3 C3
  case turn =>
    intro i v I Cn D X oC oX ys h tk E' hil hv hP htk1 hoX d1 d2 d3 lt C'
    refine wpAny_tests_nil ?_
    rw [if_pos rfl]
    obtain ⟨hin, t, rfl⟩ := OO.item_of hi hv
    obtain ⟨B, F, X1, N, T, XB, TB⟩ := C'
    clear C hc2
    k_steps
    have C8 : Cx w p loose mean mg mb _ base _ _ _ _ _ _ := ⟨B, F, X1, N, T, XB, TB⟩
    have hc8 : h.IsCell (L + 2) (some (.ref l)) := ⟨o2, (N _ (.tail _ (.tail _ (.tail _ (.tail _ (.tail _ m2)))))).1, ho2⟩
    refine ⟨comp_eval (P := fun j zs _ => OO.Cnt1 (fun b => decide (b < ns.getD i 0)) ns j zs) (x := Str.ofString "b") (clo := [(Str.ofString "a", X)]) C8 rfl (by with_unfolding_all rfl) (by decide) rfl (by decide) rfl (by intro _; with_unfolding_all rfl) (fun Q' hq => wpAny_Name (wpAny_loadName_cell rfl (by with_unfolding_all rfl) (by with_unfolding_all rfl) hc8 hq)) (.tail _ (.tail _ (.tail _ (.tail _ (.tail _ m1))))) (by rw [hxl, sizeLine_eq]; omega) OO.Cnt1.zero (fun j zs tk tk' h h1 => h1) ?turn2 ?fin2⟩
    case turn2 =>
      intro j v' I' Cn' D' oC' m₂ zs h' tk' E'' hjl hv' hP' htk' hoC' hmx n1 n2 n3 lt' C''
      obtain ⟨hjn, t', rfl⟩ := OO.item_of hi hv'
      refine wpAny_tests_one ?_
      obtain ⟨B2, F2, X2, N2, T2, XB2, TB2⟩ := C''
      clear C8 hc8 B F X1 N T XB TB
      k_steps
      · rename_i hc
        exact ⟨_, _, rfl, Nat.le_refl _, hP'.yes hjn (decide_eq_true (by omega)), ⟨B2, F2, X2, N2, T2, XB2, TB2⟩⟩
      · rename_i hc
        exact ⟨_, _, rfl, Nat.le_refl _, hP'.no hjn (decide_eq_false (by omega)), ⟨B2, F2, X2, N2, T2, XB2, TB2⟩⟩
    case fin2 =>
      intro D' h' tk' zs hP' h1' lt' C''
      obtain ⟨B2, F2, X2, N2, T2, XB2, TB2⟩ := C''
      clear C8 hc8 B F X1 N T XB TB
      have sz : (zs.toArray.size : Int) = ((ns.countP (fun b => decide (b < ns.getD i 0)) : Nat) : Int) := by
        rw [hxl] at hP'; rw [List.size_toArray, hP'.all]
      k_steps
      have hle : ns.countP (fun b => decide (b < ns.getD i 0)) ≤ ns.length := List.countP_le_length
      refine ⟨kun_lenL ⟨_, (N2 _ (.head _)).1, rfl, _, rfl⟩ sz (by omega) ?_⟩
      refine ⟨_, _, rfl, ?_, hP.step hin rfl, (Cx.mk B2 F2 X2 N2 T2 XB2 TB2).sub (by tb_start)⟩
      dsimp only at *; omega
end

section
variable {w : World} {p : Program} {loose : List Str} {mean : ExcName → Option Value} {mg mb : Str → Option Value} {dp un : Nat} {gd : Option (List Code)} {outer : List Env} {A₀ : Around} {base h₀ : Heap} {L : Addr} {m : Str → Option Value} {news rest : List (Addr × Obj)} {s : Shared} {E : Value → Shared → Prop}
set_option maxRecDepth 100000 in
set_option maxHeartbeats 2000000 in
theorem stirred_step {l c : Nat} {xs : Array Value} {ns : List Nat} {o1 o2 o3 : Obj} {v3 : Option Value} {a1 a2 : UInt8} {tal : Tok} {Q : Flow → Shared → Prop} (C : Cx w p loose mean mg mb A₀ base outer h₀ L m s.heap ((L + 4, o3) :: news)) (hd : dp + 20 < recursionLimit) (hu : un + 100 < cLine)
  (m1 : (l, listOf xs c) ∈ news) (hi : IntsAre xs.toList (ns.map Int.ofNat)) (hz : ns.length < 64) (m2 : (L + 2, o2) ∈ news) (ho2 : o2.data = .cell (some (.ref l))) (m0 : (L + 1, o1) ∈ news) (ho1 : o1.data = .cell (some (.bytes #[a1, a2] tal))) (hns : ∀ a ∈ ns, a < 65536) (ho3 : o3.data = .cell v3) (r : ∀ q ∈ news, q.1 ≠ L + 4)
  (fin : ∀ (D : Nat) (h : Heap) (tk : Nat) (ys : List Value) (o3' : Obj), o3'.data = .cell (some (.ref D)) → IntsAre ys (ns.map fun a => ((ns.countP (fun b => OO.ahead a1 a2 b a) : Nat) : Int)) → s.toks ≤ tk → (∀ q ∈ news, q.1 < D) → @LT.lt Nat _ (L + 4) D →
    Cx w p loose mean mg mb A₀ base outer h₀ L m h ((L + 4, o3') :: (D, lstO ys) :: news) → Q .next { s with heap := h, toks := tk }) :
  wpAny (model PySem.Challenge.pw_ij0047_01 w) (lawA dp un gd L outer) (exec (stAt (bodyOf (topSt 39)) 4) (lawEnv L)) Q E s := by
  have hxl : xs.size = ns.length := by have := hi.length; rw [List.length_map, Array.length_toList] at this; exact this
  have hc2 : s.heap.IsCell (L + 2) (some (.ref l)) := ⟨o2, (C.N _ (.tail _ m2)).1, ho2⟩
  refine wpAny_Assign_Name ?_ (by with_unfolding_all rfl)
  refine compX_eval (P := fun i ys _ => OO.Cnts (fun a b => OO.ahead a1 a2 b a) ns i ys) (x := Str.ofString "a") (clo := [(Str.ofString "numbers", L + 2), (Str.ofString "alts", L + 1)]) C rfl (by with_unfolding_all rfl) (fun _ => rfl) (fun _ => rfl) rfl (by decide) (fun _ _ => by with_unfolding_all rfl) (by intro _; with_unfolding_all rfl) (fun Q' hq => wpAny_Name (wpAny_loadName_cell rfl (by with_unfolding_all rfl) (by with_unfolding_all rfl) hc2 hq)) (.tail _ m1) (by rw [hxl, sizeLine_eq]; omega) OO.Cnts.zero (fun i ys tk tk' h h1 => h1) ?turn ?fin
  case fin =>
    intro D h tk ys hP h1 lt C'
    rw [hxl] at hP
    have l3 : @LT.lt Nat _ (L + 4) D := lt _ (.head _)
    refine store_cell (s := { s with heap := h, toks := tk }) (c := L + 4) (rest := (D, lstO ys) :: news) (C'.sub (by tb_start)) (List.forall_mem_cons.2 ⟨neN (by omega), r⟩) rfl rfl rfl ho3 fun h' o3' ho3' C3 => ?_
    exact fin D h' tk ys o3' ho3' hP.all h1 (fun q hq => lt q (.tail _ hq)) l3 C3
  case turn =>
    intro i v I Cn D X oC oX ys h tk E' hil hv hP htk1 hoX d1 d2 d3 lt C'
    refine wpAny_tests_nil ?_
    rw [if_pos rfl]
    obtain ⟨hin, t, rfl⟩ := OO.item_of hi hv
    obtain ⟨B, F, X1, N, T, XB, TB⟩ := C'
    clear C hc2
    k_steps
    have C8 : Cx w p loose mean mg mb _ base _ _ _ _ _ _ := ⟨B, F, X1, N, T, XB, TB⟩
    have hc8 : h.IsCell (L + 2) (some (.ref l)) := ⟨o2, (N _ (.tail _ (.tail _ (.tail _ (.tail _ (.tail _ m2)))))).1, ho2⟩
    refine ⟨comp_eval (P := fun j zs _ => OO.Cnt1 (fun b => OO.ahead a1 a2 b (ns.getD i 0)) ns j zs) (x := Str.ofString "b") (clo := [(Str.ofString "alts", L + 1), (Str.ofString "a", X)]) C8 rfl (by with_unfolding_all rfl) (by decide) rfl (by decide) rfl (by intro _; with_unfolding_all rfl) (fun Q' hq => wpAny_Name (wpAny_loadName_cell rfl (by with_unfolding_all rfl) (by with_unfolding_all rfl) hc8 hq)) (.tail _ (.tail _ (.tail _ (.tail _ (.tail _ m1))))) (by rw [hxl, sizeLine_eq]; omega) OO.Cnt1.zero (fun j zs tk tk' h h1 => h1) ?turn2 ?fin2⟩
    case turn2 =>
      intro j v' I' Cn' D' oC' m₂ zs h' tk' E'' hjl hv' hP' htk' hoC' hmx n1 n2 n3 lt' C''
      obtain ⟨hjn, t', rfl⟩ := OO.item_of hi hv'
      refine wpAny_tests_one ?_
      obtain ⟨B2, F2, X2, N2, T2, XB2, TB2⟩ := C''
      clear C8 hc8 B F X1 N T XB TB
      k_steps
      have C9 : Cx w p loose mean mg mb _ base _ _ _ _ _ _ := ⟨B2, F2, X2, N2, T2, XB2, TB2⟩
      refine ⟨wpAny_with_toks (n := tk') (Nat.le_refl _) (ahead_call (OO.getD_lt hns hjn) (OO.getD_lt hns hin) C9 rfl (by ktr_room) (by ktr_units) fun h9 tk9 C10 htk9 => ?_)⟩
      have F10 := C10.F
      have N10 := C10.N
      clear C9 F2 N2
      k_steps
      · rename_i hc
        exact ⟨_, _, rfl, htk9, hP'.yes hjn (by assumption), ⟨B2, F10, X2, N10, T2, XB2, TB2⟩⟩
      · rename_i hc
        exact ⟨_, _, rfl, htk9, hP'.no hjn (by assumption), ⟨B2, F10, X2, N10, T2, XB2, TB2⟩⟩
    case fin2 =>
      intro D' h' tk' zs hP' h1' lt' C''
      obtain ⟨B2, F2, X2, N2, T2, XB2, TB2⟩ := C''
      clear C8 hc8 B F X1 N T XB TB
      have sz : (zs.toArray.size : Int) = ((ns.countP (fun b => OO.ahead a1 a2 b (ns.getD i 0)) : Nat) : Int) := by
        rw [hxl] at hP'; rw [List.size_toArray, hP'.all]
      k_steps
      have hle : ns.countP (fun b => OO.ahead a1 a2 b (ns.getD i 0)) ≤ ns.length := List.countP_le_length
      refine ⟨kun_lenL ⟨_, (N2 _ (.head _)).1, rfl, _, rfl⟩ sz (by omega) ?_⟩
      refine ⟨_, _, rfl, ?_, hP.step hin rfl, (Cx.mk B2 F2 X2 N2 T2 XB2 TB2).sub (by tb_start)⟩
      dsimp only at *; omega
end

section
variable {w : World} {p : Program} {loose : List Str} {mean : ExcName → Option Value} {mg mb : Str → Option Value} {dp un : Nat} {gd : Option (List Code)} {outer : List Env} {A₀ : Around} {base h₀ : Heap} {L : Addr} {m : Str → Option Value} {news rest : List (Addr × Obj)} {s : Shared} {E : Value → Shared → Prop}
structure SqAt (fp fq : List Int) (v y : Value) : Prop where
  go : ∀ i t, v = .int i t → ∃ t', y = .int ((fp.getD i.toNat 0 - fq.getD i.toNat 0) * (fp.getD i.toNat 0 - fq.getD i.toNat 0)) t'
set_option backward.match.sparseCases false in
noncomputable def arg0 : Stmt → Expr
  | .Assign _ (.Call _ (a :: _) _ _) _ => a
  | _ => .Name (Str.ofString "") ⟨0, 0, 0, 0⟩
theorem range_n (n : Nat) : Builtin.Range.rangeSize 0 (n : Int) 1 = (n : Int) := by rw [rangeSize_one]; split <;> omega
set_option maxRecDepth 100000 in
set_option maxHeartbeats 2000000 in
theorem apart_comp {lp lq n : Nat} {ps qs : List Value} {fp fq : List Int} {tn : Tok} {o3 o4 : Obj} {Q : Value → Shared → Prop} (C : Cx w p loose mean mg mb A₀ base outer h₀ L m s.heap news) (hd : dp + 8 < recursionLimit) (hu : un + 40 < cLine)
  (mp : (lp, lstO ps) ∈ news) (mq : (lq, lstO qs) ∈ news) (hp : IntsAre ps fp) (hq : IntsAre qs fq) (hpn : fp.length = n) (hqn : fq.length = n) (hn : n < 64) (bp : ∀ k, 0 ≤ fp.getD k 0 ∧ fp.getD k 0 < 64) (bq : ∀ k, 0 ≤ fq.getD k 0 ∧ fq.getD k 0 < 64)
  (m3 : (L + 3, o3) ∈ news) (ho3 : o3.data = .cell (some (.ref lp))) (m4 : (L + 4, o4) ∈ news) (ho4 : o4.data = .cell (some (.ref lq))) (hsz : m (Str.ofString "size") = some (.int (n : Int) tn))
  (fin : ∀ (D : Nat) (h : Heap) (tk c : Nat) (ys : Array Value), IntsAre ys.toList ((List.range n).map fun k => (fp.getD k 0 - fq.getD k 0) * (fp.getD k 0 - fq.getD k 0)) → (∀ q ∈ news, q.1 ≠ D) →
    Cx w p loose mean mg mb A₀ base outer h₀ L m h ((D, listOf ys c) :: news) → Q (.ref D) { s with heap := h, toks := tk }) :
  wpAny (model PySem.Challenge.pw_ij0047_01 w) (lawA dp un gd L outer) (eval (arg0 (stAt (bodyOf (topSt 39)) 5)) (lawEnv L)) Q E s := by
  obtain ⟨B, F, X, N, T, XB, TB⟩ := id C
  refine wpAny_ListComp_free (cl := [(Str.ofString "stirred", L + 4), (Str.ofString "plain", L + 3)]) (x := Str.ofString "k") (fun _ => true) (SqAt fp fq) (by with_unfolding_all rfl) (by decide) rfl (by decide) rfl ?_ (by intro _; with_unfolding_all rfl)
  k_steps
  refine wpAny_Name (wpAny_loadName_local rfl (by with_unfolding_all rfl) F.ns hsz ?_)
  k_steps
  rename IsRange _ _ _ _ _ _ _ _ => hr
  rename News _ _ _ _ => N2
  rename Fr _ _ _ _ => F2
  rename Heap => h2
  have up : ∀ b o, h2.get? b = some o → (h2.push { cls := .type "range_iterator", data := .fields #[rawInt 0, rawInt (Builtin.Range.rangeSize 0 (n : Int) 1), rawInt 1] }).get? b = some o := fun b o e => Heap.get?_push_of_some _ e
  have C2 : Cx w p loose mean mg mb _ base _ _ _ _ _ _ := ⟨B, F2, X, N2, T, XB, TB⟩
  have C3 := C2.keepsH up
  have sz : Builtin.Range.rangeSize 0 (n : Int) 1 = (n : Int) := range_n n
  have szp := Heap.size_push h2 { cls := .type "range_iterator", data := .fields #[rawInt 0, rawInt (Builtin.Range.rangeSize 0 (n : Int) 1), rawInt 1] }
  refine wpAny_pyIter_range hr (small_one (by decide) (by decide) (Ar.lo62 n) (Ar.hi62 hn)) ?_
  refine ⟨h2.objs.size, _, _, n, _, _, rfl, (Walks.range rfl _ 0 1 n).bound, by rw [sizeLine_eq]; omega, ?st, ?lo, ⟨?te, ?el⟩, ?fn⟩
  case st => show IsRangeIter _ _ _ _ _; rw [sz]; simpa using Heap.get?_push_size _ rfl
  case lo => intro b hb; rw [List.mem_singleton.1 hb]; exact szp ▸ Nat.lt_succ_self _
  case te => intro C' i v s₃ m₃ E' _ _ _ _ _ _; exact wpAny_tests_nil ⟨rfl, s₃.heap, s₃.toks, rfl, fun _ _ e => e⟩
  case el =>
    intro C' i v s₃ m₃ E' hC' hP _ hns hm hk htk
    obtain ⟨hin, t, rfl⟩ := hP
    obtain ⟨h3, g3, d3, t3, os3⟩ := s₃
    have C4 := C2.keepsH (h' := h3) fun b o e => hk b o (fun hb => absurd (List.mem_singleton.1 hb) (Nat.ne_of_lt (Heap.lt_size e))) (up b o e)
    obtain ⟨B4, F4, X4, N4, T4, XB4, TB4⟩ := C4
    clear C3 C2 C B F2 X N2 T XB TB
    have e0 : (0 : Int) + (i : Int) * 1 = (i : Int) := Ar.at1 i
    rw [e0]
    rw [e0] at hm
    refine wpAny_mono (Q := fun y s₄ => ∃ t' tk, y = .int ((fp.getD i 0 - fq.getD i 0) ^ 2) t' ∧ s₄ = ⟨h3, g3, d3, tk, os3⟩) ?_ (fun y s₄ hy => ?_) fun _ _ e => e
    · generalize hQ : (fun (y : Value) (s₄ : Shared) => ∃ t' tk, y = .int ((fp.getD i 0 - fq.getD i 0) ^ 2) t' ∧ s₄ = (⟨h3, g3, d3, tk, os3⟩ : Shared)) = Q9
      have l1 := Ar.lt63 hin hpn hn
      have l2 := (Ar.lt63 hin hqn hn).2.1
      have b1 := bp (i : Int).toNat
      have b2 := bq (i : Int).toNat
      have b3 : (fp.getD (i : Int).toNat 0 - fq.getD (i : Int).toNat 0).natAbs < 2 ^ 64 := Ar.dif b1 b2
      k_steps
      refine ⟨item_list_intsR (News.isList N4 mp) hp l1.1 l1.2.1 l1.2.2 fun t1 => ?_⟩
      k_steps
      refine ⟨item_list_intsR (News.isList N4 mq) hq l1.1 l2 l1.2.2 fun t2 => ?_⟩
      k_steps
      rw [← hQ]
      exact ⟨_, _, rfl, rfl⟩
    · obtain ⟨t', tk, rfl, rfl⟩ := hy
      refine ⟨⟨fun j u e => ?_⟩, ⟨_, _, rfl, fun _ _ e => e⟩⟩
      cases e
      exact ⟨t', congrArg (fun z => Value.int z _) (by rw [Int.toNat_natCast, Int.pow_succ, Int.pow_succ, Int.pow_zero, Int.one_mul])⟩
  case fn =>
    intro D h' tk ys vs hD hl hpl hlen hP hF hk
    obtain ⟨c, ho⟩ := hpl
    rw [List.filter_eq_self.2 (fun _ _ => rfl)] at hF
    have hyl := paired_len hF
    have hk2 : ∀ b o, h2.get? b = some o → h'.get? b = some o := fun b o e => hk b o (fun hb => absurd (List.mem_singleton.1 hb) (Nat.ne_of_lt (Heap.lt_size e))) (up b o e)
    have hD2 : h2.get? D = none := by
      cases q : h2.get? D with
      | none => rfl
      | some o => have := up _ _ q; rw [hD] at this; cases this
    have C4 := C2.keepsH hk2
    refine fin D h' tk c ys (OO.ints_of_at (by rw [hyl, hlen]) fun i v hv => ?_) (fun q hq e => ?_) ⟨C4.B, C4.F, C4.X, fun q hq => ?_, C4.T, C4.XB, C4.TB⟩
    · obtain ⟨v', h1, h2⟩ := paired_at hF i v hv
      obtain ⟨_, t, rfl⟩ := hP i v' h1
      obtain ⟨t', rfl⟩ := h2.go _ _ rfl
      refine ⟨t', ?_⟩
      have e0 : (0 : Int) + (i : Int) * 1 = (i : Int) := Ar.at1 i
      rw [e0]; rfl
    · have := (C2.N q (by first | exact hq | exact .tail _ hq)).1
      rw [e, hD2] at this; cases this
    · rcases List.mem_cons.mp hq with rfl | hq
      · refine ⟨ho, fun e => ?_, ?_⟩
        · obtain ⟨o', _, _, ho', _⟩ := C2.F.ns
          rw [← e, hD2] at ho'; cases ho'
        · cases q : h₀.get? D with
          | none => rfl
          | some o => rw [C2.F.keep _ _ q] at hD2; cases hD2
      · exact C4.N q (by first | exact hq | exact .tail _ hq)
end

section
variable {M : Model} {A : Around} {E : Value → Shared → Prop} {s : Shared} {env : Env}
noncomputable def FnAt (f : Addr) (h : Heap) : Prop := ∃ o fd, o.data = .func fd ∧ h.get? f = some o
theorem keeps_F {f : Addr} (h : Heap) (X : FnAt f h) : ∃ k, (k = Keeper.frame ∨ k = Keeper.machine ∨ k = Keeper.boundFrame) ∧ Looks M h (keeperOf (.ref f)) k := by
  obtain ⟨o, fd, hd, ho⟩ := X
  refine ⟨.frame, .inl rfl, (Looks.ld (part := none) ho).andThen ?_⟩
  rw [hd]
  exact .now
/-- the walk stands still here: the function's text is not in K -/
structure StandF (M : Model) (A : Around) (f : Addr) (pos : List Value) (kw : List (Str × Value)) (Q E : Value → Shared → Prop) (s : Shared) : Prop where
  go : FnAt f s.heap ∧ wpAny M A (call (.ref f) pos kw) Q E s
theorem callF_pos {pos : Pos} {f : Addr} {e : Expr} {rest : List Expr} {Q : Value → Shared → Prop} (h : wpAny M A (spliced (backTo pos (starEach (e :: rest) env))) (fun vs s₁ => StandF M A f vs [] Q E s₁) E s)
    (he : starEach (e :: rest) env = (false, eval e env) :: starEach rest env := by rfl) (hplain : (backTo pos (starEach rest env)).any (·.1) = false := by rfl) :
    wpAny M A (callWith pos (.ref f) [] (backTo pos (starEach (e :: rest) env)) []) Q E s := by
  rw [he] at h ⊢
  refine callWith_of (P := FnAt f) (by show ((false || (backTo pos (starEach rest env)).any (·.1)) || false) = false; rw [hplain]; rfl) keeps_F (evalArgs_plain (wpAny_mono h (fun vs s₁ h₁ => ?_) fun _ _ x => x))
  exact ⟨h₁.go.1, h₁.go.2⟩
theorem callF_posS {pos : Pos} {f : Addr} {e : Expr} {rest : List Expr} {Q : Value → Shared → Prop} (_ : [457, 321, 418, 335].contains f = true) (h : wpAny M A (spliced (backTo pos (starEach (e :: rest) env))) (fun vs s₁ => StandF M A f vs [] Q E s₁) E s)
    (he : starEach (e :: rest) env = (false, eval e env) :: starEach rest env := by rfl) (hplain : (backTo pos (starEach rest env)).any (·.1) = false := by rfl) :
    wpAny M A (callWith pos (.ref f) [] (backTo pos (starEach (e :: rest) env)) []) Q E s := callF_pos h he hplain
theorem callF_kw {pos : Pos} {f : Addr} {e : Expr} {rest : List Expr} {kws : List Keyword} {Q : Value → Shared → Prop} (hall : (backToKw pos (keywordEach kws env)).all (·.1.isSome) = true)
    (h : wpAny M A (spliced (backTo pos (starEach (e :: rest) env))) (fun vs s₁ => wpAny M A (evalAll ((backToKw pos (keywordEach kws env)).map (·.2)))
      (fun ks s₂ => StandF M A f vs (((backToKw pos (keywordEach kws env)).filterMap (·.1)).zip ks) Q E s₂) E s₁) E s)
    (hplain : ((backTo pos (starEach (e :: rest) env)).any (·.1) || (backToKw pos (keywordEach kws env)).any (·.1.isNone)) = false := by rfl) (he : starEach (e :: rest) env = (false, eval e env) :: starEach rest env := by rfl) :
    wpAny M A (callWith pos (.ref f) [] (backTo pos (starEach (e :: rest) env)) (backToKw pos (keywordEach kws env))) Q E s := by
  refine callWith_of (P := FnAt f) hplain keeps_F (evalArgs_kw2 hall (wpAny_mono h (fun vs s₁ h₁ => wpAny_mono h₁ (fun ks s₂ h₂ => ?_) fun _ _ x => x) fun _ _ x => x) he)
  exact ⟨h₂.go.1, h₂.go.2⟩
end
local macro_rules | `(tactic| walk_at "callWith ref") => `(tactic| refine callF_posS (by decide) ?_)
local macro_rules | `(tactic| walk_at "callWith ref") => `(tactic| ((with_reducible show wpAny _ _ (callWith _ (Value.ref 341) _ _ (backToKw _ (keywordEach [_] _))) _ _ _); refine callF_kw rfl ?_))
section
variable {w : World} {p : Program} {loose : List Str} {mean : ExcName → Option Value} {mg mb : Str → Option Value} {dp un : Nat} {gd : Option (List Code)} {outer : List Env} {A₀ : Around} {base h₀ : Heap} {L : Addr} {m : Str → Option Value} {news rest : List (Addr × Obj)} {s : Shared} {E : Value → Shared → Prop}
set_option maxRecDepth 100000 in
set_option maxHeartbeats 2000000 in
theorem short_step {lp tk0 : Nat} {ps : List Value} {ns : List Nat} {Q : Flow → Shared → Prop} (C : Cx w p loose mean mg mb A₀ base outer h₀ L m s.heap news) (hd : dp + 20 < recursionLimit) (hu : un + 100 < cLine) (htk : 0 < s.toks)
  (hP : OO.Keys (fun a => #[OO.hi a, OO.lo a]) ns ns.length ps tk0) (m1 : (lp, lstO ps) ∈ news) (hz : ns.length < 64) (hmp : m (Str.ofString "pairs") = some (.ref lp))
  (fin : ∀ (D : Nat) (h : Heap) (tk : Nat) (ys : List Value), OO.Keys (fun a => BB.b16 (OO.hi a) (OO.lo a)) ns ns.length ys tk → s.toks ≤ tk → (∀ q ∈ news, q.1 < D) → Cx w p loose mean mg mb A₀ base outer h₀ L (fun z => if z = Str.ofString "short" then some (.ref D) else m z) h ((D, lstO ys) :: news) → Q .next { s with heap := h, toks := tk + 1 }) :
  wpAny (model PySem.Challenge.pw_ij0047_01 w) (lawA dp un gd L outer) (exec (stAt (bodyOf (topSt 39)) 9) (lawEnv L)) Q E s := by
  obtain ⟨ks, rfl, hK⟩ := hP.list
  have hxl : (ks.map (fun p => Value.bytes p.1 p.2)).toArray.size = ns.length := by rw [List.size_toArray, List.length_map, hK.len]
  refine comp_assign (P := OO.Keys (fun a => BB.b16 (OO.hi a) (OO.lo a)) ns) (x := Str.ofString "pair") (y := Str.ofString "short") (clo := []) C rfl (by with_unfolding_all rfl) rfl rfl rfl (by with_unfolding_all rfl) (by decide) rfl (by decide) rfl (by intro _; with_unfolding_all rfl) (fun Q' hq => wpAny_Name (wpAny_loadName_local rfl (by with_unfolding_all rfl) C.F.ns hmp hq)) m1 (by rw [hxl, sizeLine_eq]; omega) (.zero htk) (fun i ys tk tk' h h1 => h1.mono h) ?turn ?fin
  case fin =>
    intro D h tk ys hP h1 lt C'
    rw [hxl] at hP
    exact fin D h tk ys hP h1 lt C'
  case turn =>
    intro i v I Cn D oC m₂ ys h tk E' hil hv hP2 htk1 hoC hmx n1 n2 n3 lt C'
    refine wpAny_tests_nil ?_
    rw [if_pos rfl]
    obtain ⟨hin, t, rfl⟩ := hK.at hv
    obtain ⟨B, F, X, N, T, XB, TB⟩ := C'
    clear C
    k_steps
    rename News _ _ _ _ => N8
    rename Fr _ _ _ _ => F8
    have C8 : Cx w p loose mean mg mb _ base _ _ _ _ _ _ := ⟨B, F8, X, N8, T, XB, TB⟩
    refine ⟨b16_call C8 rfl (by ktr_room) (by ktr_units) fun h9 t9 tk9 l9 l9' C9 => ?_⟩
    dsimp only at l9
    exact ⟨_, _, rfl, by omega, hP2.step hin rfl (by omega) l9', C9⟩
set_option maxRecDepth 100000 in
set_option maxHeartbeats 2000000 in
theorem long_step {lp tk0 : Nat} {ps : List Value} {ns : List Nat} {o1 : Obj} {a1 a2 : UInt8} {tal : Tok} {Q : Flow → Shared → Prop} (C : Cx w p loose mean mg mb A₀ base outer h₀ L m s.heap news) (hD : Docs base) (hd : dp + 30 < recursionLimit) (hu : un + 150 < cLine) (htk : 0 < s.toks)
  (hP : OO.Keys (fun a => #[OO.hi a, OO.lo a]) ns ns.length ps tk0) (m1 : (lp, lstO ps) ∈ news) (hz : ns.length < 64) (hmp : m (Str.ofString "pairs") = some (.ref lp)) (m0 : (L + 1, o1) ∈ news) (ho1 : o1.data = .cell (some (.bytes #[a1, a2] tal)))
  (fin : ∀ (D : Nat) (h : Heap) (tk : Nat) (ys : List Value), OO.Keys (fun a => (BM.b64 (OO.hi a) (OO.lo a)).map (BM.tr a1 a2)) ns ns.length ys tk → s.toks ≤ tk → (∀ q ∈ news, q.1 < D) → Cx w p loose mean mg mb A₀ base outer h₀ L (fun z => if z = Str.ofString "long" then some (.ref D) else m z) h ((D, lstO ys) :: news) → Q .next { s with heap := h, toks := tk + 1 }) :
  wpAny (model PySem.Challenge.pw_ij0047_01 w) (lawA dp un gd L outer) (exec (stAt (bodyOf (topSt 39)) 10) (lawEnv L)) Q E s := by
  obtain ⟨ks, rfl, hK⟩ := hP.list
  have hxl : (ks.map (fun p => Value.bytes p.1 p.2)).toArray.size = ns.length := by rw [List.size_toArray, List.length_map, hK.len]
  refine comp_assign (P := OO.Keys (fun a => (BM.b64 (OO.hi a) (OO.lo a)).map (BM.tr a1 a2)) ns) (x := Str.ofString "pair") (y := Str.ofString "long") (clo := [(Str.ofString "alts", L + 1)]) C rfl (by with_unfolding_all rfl) rfl rfl rfl (by with_unfolding_all rfl) (by decide) rfl (by decide) rfl (by intro _; with_unfolding_all rfl) (fun Q' hq => wpAny_Name (wpAny_loadName_local rfl (by with_unfolding_all rfl) C.F.ns hmp hq)) m1 (by rw [hxl, sizeLine_eq]; omega) (.zero htk) (fun i ys tk tk' h h1 => h1.mono h) ?turn ?fin
  case fin =>
    intro D h tk ys hP h1 lt C'
    rw [hxl] at hP
    exact fin D h tk ys hP h1 lt C'
  case turn =>
    intro i v I Cn D oC m₂ ys h tk E' hil hv hP2 htk1 hoC hmx n1 n2 n3 lt C'
    refine wpAny_tests_nil ?_
    rw [if_pos rfl]
    obtain ⟨hin, t, rfl⟩ := hK.at hv
    obtain ⟨B, F, X, N, T, XB, TB⟩ := C'
    clear C
    k_steps
    rename News _ _ _ _ => N8
    rename Fr _ _ _ _ => F8
    have C8 : Cx w p loose mean mg mb _ base _ _ _ _ _ _ := ⟨B, F8, X, N8, T, XB, TB⟩
    obtain ⟨v8, t8, ho8⟩ := (C8.docsH hD).b64
    refine ⟨⟨_, _, rfl, ho8⟩, ?_⟩
    refine b64e_call C8 hD rfl (by ktr_room) (by ktr_units) fun h9 t9 tk9 l9 l9' C9 => ?_
    dsimp only at l9
    exact ⟨_, _, rfl, by omega, hP2.step hin rfl (by omega) l9', C9⟩
end

theorem EqAt_fi {A : Around} {s : Shared} {f : UInt64} {t u : Tok} {n : Int} (h : Float64.cmpInt f n = some .eq) : PySem.SeqAt.EqAt A s (.float f t) (.int n u) true := fun prog w E Q hq => by
  unfold eqBool
  refine wpAny_holding ?_
  refine wpAny_ite_split (fun hab => absurd (eq_of_beq hab) nofun) (fun _ => ?_)
  refine wpAny_bind ?_
  show wpAny _ A (compareOp .Eq (.float f t) (.int n u)) _ _ _
  refine eq_fi ?_
  rw [h]
  exact wpAny_truthy_bool hq
section
variable {prog : Program} {w : World} {A : Around} {E : Value → Shared → Prop} {s : Shared} {Q : Value → Shared → Prop}
theorem ne_list_fi {l b : Addr} {xs : Array Value} {ys : List Value} {js : List Int} (hl : s.heap.IsList l xs) (hb : s.heap.IsList b ys.toArray) (hsz : xs.size = js.length) (hi : IntsAre ys js)
    (hx : ∀ (i : Nat) (v : Value), xs[i]? = some v → ∃ f t, v = .float f t ∧ Float64.cmpInt f (js.getD i 0) = some .eq) (hu : A.units < cLine) (h : Q (.bool false) s) : wpAny (model prog w) A (compareOp .NotEq (.ref l) (.ref b)) Q E s := by
  have hyl := hi.length
  have hs2 : xs.size = ys.toArray.size := hsz.trans (hyl.symm.trans (by simp))
  show wpAny _ A (richCompare .NotEq _ _) Q E s
  refine PySem.SeqAt.RcNeAt.lists (e := fun _ => true) hl hb hs2 hu (fun j h1 h2 => ?_) prog w E Q ?_
  · obtain ⟨f, t, e1, e2⟩ := hx j xs[j] (Array.getElem?_eq_getElem h1)
    obtain ⟨u, e3⟩ := hi.get j (js.getD j 0) (by rw [List.getD, List.getElem?_eq_getElem (by omega)]; rfl)
    have e4 : ys.toArray[j] = .int (js.getD j 0) u := by
      have := Array.getElem?_eq_getElem h2
      rw [List.getElem?_toArray, e3] at this
      exact (Option.some.inj this).symm
    rw [e1, e4]
    exact EqAt_fi e2
  · have : (!(List.range xs.size).all fun _ => true) = false := by simp
    rw [this]; exact h
end
set_option backward.match.sparseCases false in
noncomputable def cmpE : Stmt → Nat → Expr
  | .If (.BoolOp _ es _) _ _ _, i => match es.drop i with
    | .Compare _ _ (c :: _) _ :: _ => c
    | _ => .Name (Str.ofString "") ⟨0, 0, 0, 0⟩
  | _, _ => .Name (Str.ofString "") ⟨0, 0, 0, 0⟩
section
variable {w : World} {p : Program} {loose : List Str} {mean : ExcName → Option Value} {mg mb : Str → Option Value} {dp un : Nat} {gd : Option (List Code)} {outer : List Env} {A₀ : Around} {base h₀ : Heap} {L : Addr} {m : Str → Option Value} {news rest : List (Addr × Obj)} {s : Shared} {E : Value → Shared → Prop}
set_option maxRecDepth 100000 in
set_option maxHeartbeats 2000000 in
theorem incs_plain {lp : Nat} {ps : List Value} {fp : List Int} {o3 : Obj} {Q : Value → Shared → Prop} (C : Cx w p loose mean mg mb A₀ base outer h₀ L m s.heap news)
  (m1 : (lp, lstO ps) ∈ news) (hi : IntsAre ps fp) (hz : fp.length < 64) (m3 : (L + 3, o3) ∈ news) (ho3 : o3.data = .cell (some (.ref lp)))
  (fin : ∀ (D : Nat) (h : Heap) (tk : Nat) (ys : List Value), IntsAre ys (fp.map (· + 1)) → s.toks ≤ tk → (∀ q ∈ news, q.1 < D) → Cx w p loose mean mg mb A₀ base outer h₀ L m h ((D, lstO ys) :: news) → Q (.ref D) { s with heap := h, toks := tk }) :
  wpAny (model PySem.Challenge.pw_ij0047_01 w) (lawA dp un gd L outer) (eval (cmpE (stAt (bodyOf (topSt 39)) 16) 0) (lawEnv L)) Q E s := by
  have hxl : ps.toArray.size = fp.length := by rw [List.size_toArray, hi.length]
  have hc3 : s.heap.IsCell (L + 3) (some (.ref lp)) := ⟨o3, (C.N _ m3).1, ho3⟩
  refine comp_eval (P := fun i ys _ => IntsAre ys ((fp.take i).map (· + 1))) (x := Str.ofString "place") (clo := []) C rfl (by with_unfolding_all rfl) (by decide) rfl (by decide) rfl (by intro _; with_unfolding_all rfl) (fun Q' hq => wpAny_Name (wpAny_loadName_cell rfl (by with_unfolding_all rfl) (by with_unfolding_all rfl) hc3 hq)) m1 (by rw [hxl, sizeLine_eq]; omega) (by rw [List.take_zero]; exact .nil) (fun j zs tk tk' h h1 => h1) ?turn ?fin
  case fin =>
    intro D h tk ys hP h1 lt C'
    rw [hxl, List.take_length] at hP
    exact fin D h tk ys hP h1 lt C'
  case turn =>
    intro i v I Cn D oC m₂ ys h tk E' hil hv hP2 htk1 hoC hmx n1 n2 n3 lt C'
    refine wpAny_tests_nil ?_
    rw [if_pos rfl]
    obtain ⟨n, t, rfl, hn⟩ := hi.at i v (by simpa using hv)
    obtain ⟨B, F, X, N, T, XB, TB⟩ := C'
    clear C hc3
    k_steps
    refine ⟨_, _, rfl, by dsimp only; omega, ?_, ⟨B, F, X, N, T, XB, TB⟩⟩
    rw [List.take_add_one, hn, List.map_append]
    exact IntsAre.append hP2 (.cons _ _ .nil)
set_option maxRecDepth 100000 in
set_option maxHeartbeats 2000000 in
theorem incs_stirred {lp : Nat} {ps : List Value} {fp : List Int} {o3 : Obj} {Q : Value → Shared → Prop} (C : Cx w p loose mean mg mb A₀ base outer h₀ L m s.heap news)
  (m1 : (lp, lstO ps) ∈ news) (hi : IntsAre ps fp) (hz : fp.length < 64) (m3 : (L + 4, o3) ∈ news) (ho3 : o3.data = .cell (some (.ref lp)))
  (fin : ∀ (D : Nat) (h : Heap) (tk : Nat) (ys : List Value), IntsAre ys (fp.map (· + 1)) → s.toks ≤ tk → (∀ q ∈ news, q.1 < D) → Cx w p loose mean mg mb A₀ base outer h₀ L m h ((D, lstO ys) :: news) → Q (.ref D) { s with heap := h, toks := tk }) :
  wpAny (model PySem.Challenge.pw_ij0047_01 w) (lawA dp un gd L outer) (eval (cmpE (stAt (bodyOf (topSt 39)) 16) 1) (lawEnv L)) Q E s := by
  have hxl : ps.toArray.size = fp.length := by rw [List.size_toArray, hi.length]
  have hc3 : s.heap.IsCell (L + 4) (some (.ref lp)) := ⟨o3, (C.N _ m3).1, ho3⟩
  refine comp_eval (P := fun i ys _ => IntsAre ys ((fp.take i).map (· + 1))) (x := Str.ofString "place") (clo := []) C rfl (by with_unfolding_all rfl) (by decide) rfl (by decide) rfl (by intro _; with_unfolding_all rfl) (fun Q' hq => wpAny_Name (wpAny_loadName_cell rfl (by with_unfolding_all rfl) (by with_unfolding_all rfl) hc3 hq)) m1 (by rw [hxl, sizeLine_eq]; omega) (by rw [List.take_zero]; exact .nil) (fun j zs tk tk' h h1 => h1) ?turn ?fin
  case fin =>
    intro D h tk ys hP h1 lt C'
    rw [hxl, List.take_length] at hP
    exact fin D h tk ys hP h1 lt C'
  case turn =>
    intro i v I Cn D oC m₂ ys h tk E' hil hv hP2 htk1 hoC hmx n1 n2 n3 lt C'
    refine wpAny_tests_nil ?_
    rw [if_pos rfl]
    obtain ⟨n, t, rfl, hn⟩ := hi.at i v (by simpa using hv)
    obtain ⟨B, F, X, N, T, XB, TB⟩ := C'
    clear C hc3
    k_steps
    refine ⟨_, _, rfl, by dsimp only; omega, ?_, ⟨B, F, X, N, T, XB, TB⟩⟩
    rw [List.take_add_one, hn, List.map_append]
    exact IntsAre.append hP2 (.cons _ _ .nil)
end

section
variable {w : World} {p : Program} {loose : List Str} {mean : ExcName → Option Value} {mg mb : Str → Option Value} {dp un : Nat} {gd : Option (List Code)} {outer : List Env} {A₀ : Around} {base h₀ : Heap} {L : Addr} {m : Str → Option Value} {news rest : List (Addr × Obj)} {s : Shared} {E : Value → Shared → Prop}
set_option maxRecDepth 100000 in
set_option maxHeartbeats 2000000 in
theorem alts_step {l : Nat} {vs : List Value} {script : List Int} {o1 : Obj} {v1 : Option Value} {Q : Flow → Shared → Prop} (C : Cx w p loose mean mg mb A₀ base outer h₀ L m s.heap ((L + 1, o1) :: news)) (hd : dp + 20 < recursionLimit) (hu : un + 100 < cLine)
  (hl : h₀.IsList l vs.toArray) (hi : IntsAre vs script) (hm : script.length < 64) (ho1 : o1.data = .cell v1) (hsc : m (Str.ofString "script") = some (.ref l)) (r : ∀ q ∈ news, q.1 ≠ L + 1)
  (fin : ∀ (h : Heap) (tk : Nat) (o1' : Obj) (tal : Tok), 0 < tk → o1'.data = .cell (some (.bytes #[(OO.alt1 (script.headD 0)).toUInt8, (OO.alt2 (script.headD 0)).toUInt8] tal)) → Cx w p loose mean mg mb A₀ base outer h₀ L m h ((L + 1, o1') :: news) → Q .next { s with heap := h, toks := tk }) :
  wpAny (model PySem.Challenge.pw_ij0047_01 w) (lawA dp un gd L outer) (exec (stAt (bodyOf (topSt 39)) 0) (lawEnv L)) Q E s := by
  refine wpAny_Assign_Name ?_ (by with_unfolding_all rfl)
  obtain ⟨B, F, X, N, T, XB, TB⟩ := C
  have step : ∀ (s' : Shared) (th : Tok), s' = { s with heap := s'.heap, toks := s'.toks } → Cx w p loose mean mg mb A₀ base outer h₀ L m s'.heap ((L + 1, o1) :: news) →
      wpAny (model PySem.Challenge.pw_ij0047_01 w) (lawA dp un gd L outer) (call (.ref 471) [.int (script.headD 0) th]) (fun v s₁ => wpAny (model PySem.Challenge.pw_ij0047_01 w) (lawA dp un gd L outer) (storeName (lawEnv L) (Str.ofString "alts") v) (fun _ => Q .next) E s₁) E s' := by
    intro s' th e C'
    refine alts_call C' rfl (by ktr_room) (by ktr_units) fun h' tk tk' l1 l2 C2 => ?_
    refine store_cell (s := { s' with heap := h', toks := tk' }) C2 r rfl rfl rfl ho1 fun h3 o1' d1 C3 => ?_
    rw [e]
    exact fin h3 tk' o1' tk (by omega) d1 C3
  k_steps
  refine wpAny_Name (wpAny_loadName_local rfl (by with_unfolding_all rfl) F.ns hsc ?_)
  k_steps
  rename News _ _ _ _ => N2
  rename Fr _ _ _ _ => F2
  have hl2 := hl.at fun o e => F2.keep _ _ e
  refine ⟨ke_ne_ints (ys := []) hl2 (News.isList N2 (.head _)) hi .nil (by ktr_units) ?_⟩
  cases hi with
  | nil =>
    k_steps
    rename News _ _ _ _ => N3
    rename Fr _ _ _ _ => F3
    exact ⟨step _ _ rfl ⟨B, F3, X, fun q hq => N3 q (.tail _ hq), T, XB, TB⟩⟩
  | cons k t hi' =>
    k_steps
    · rename_i e
      exact absurd (of_decide_eq_true e) (List.cons_ne_nil _ _)
    · refine wpAny_Name (wpAny_loadName_local rfl (by with_unfolding_all rfl) F2.ns hsc ?_)
      k_steps
      rename News _ _ _ _ => N3
      rename Fr _ _ _ _ => F3
      exact ⟨step _ _ rfl ⟨B, F3, X, fun q hq => N3 q (.tail _ hq), T, XB, TB⟩⟩
end

theorem drop_stAt : ∀ (l : List Stmt) (i : Nat), i < l.length → l.drop i = stAt l i :: l.drop (i + 1)
  | [], _, h => absurd h (Nat.not_lt_zero _)
  | _ :: _, 0, _ => rfl
  | _ :: r, i + 1, h => drop_stAt r i (Nat.lt_of_succ_lt_succ h)
theorem lawB_len : (bodyOf (topSt 39)).length = 19 := by rfl
section
variable {M : Model} {A : Around} {env : Env} {s : Shared} {Q : Flow → Shared → Prop} {E : Value → Shared → Prop}
theorem exec_at {i : Nat} (hi : i < 19) (h : wpAny M A (exec (stAt (bodyOf (topSt 39)) i) env) (fun f s' => match f with | .next => wpAny M A (execs ((bodyOf (topSt 39)).drop (i + 1)) env) Q E s' | f => Q f s') E s) :
    wpAny M A (execs ((bodyOf (topSt 39)).drop i) env) Q E s := by
  rw [drop_stAt _ i (by rw [lawB_len]; exact hi)]
  exact wpAny_execs_cons h
end
section
variable {w : World} {p : Program} {loose : List Str} {mean : ExcName → Option Value} {mg mb : Str → Option Value} {dp un : Nat} {gd : Option (List Code)} {outer : List Env} {A₀ : Around} {base h₀ : Heap} {L : Addr} {m : Str → Option Value} {news rest : List (Addr × Obj)} {s : Shared} {E : Value → Shared → Prop} {Q : Flow → Shared → Prop}
set_option maxRecDepth 100000 in
set_option maxHeartbeats 2000000 in
theorem numbers_step {l : Nat} {vs : List Value} {script : List Int} {o2 : Obj} {v2 : Option Value} (C : Cx w p loose mean mg mb A₀ base outer h₀ L m s.heap ((L + 2, o2) :: news)) (hd : dp + 20 < recursionLimit) (hu : un + 100 < cLine)
  (hl : h₀.IsList l vs.toArray) (hi : IntsAre vs script) (hm : script.length < 64) (ho2 : o2.data = .cell v2) (hsc : m (Str.ofString "script") = some (.ref l)) (r : ∀ q ∈ news, q.1 ≠ L + 2)
  (fin : ∀ (h : Heap) (tk : Nat) (o2' : Obj) (D c : Nat) (ys : Array Value), s.toks ≤ tk → o2'.data = .cell (some (.ref D)) → IntsAre ys.toList ((OO.numbersOf script).map Int.ofNat) → (∀ q ∈ news, q.1 < D) → @LT.lt Nat _ (L + 2) D →
    Cx w p loose mean mg mb A₀ base outer h₀ L m h ((L + 2, o2') :: (D, listOf ys c) :: news) → Q .next { s with heap := h, toks := tk }) :
  wpAny (model PySem.Challenge.pw_ij0047_01 w) (lawA dp un gd L outer) (exec (stAt (bodyOf (topSt 39)) 1) (lawEnv L)) Q E s := by
  refine wpAny_Assign_Name ?_ (by with_unfolding_all rfl)
  obtain ⟨B, F, X, N, T, XB, TB⟩ := C
  k_steps
  refine wpAny_Name (wpAny_loadName_local rfl (by with_unfolding_all rfl) F.ns hsc ?_)
  k_steps
  refine ⟨unlike_call ⟨B, F, X, N, T, XB, TB⟩ rfl (by ktr_room) (by ktr_units) hl hi hm fun h2 tk2 D c ys l2 hys lt C2 => ?_⟩
  have lt2 : @LT.lt Nat _ (L + 2) D := lt _ (.head _)
  refine store_cell (s := { s with heap := h2, toks := tk2 }) (c := L + 2) (rest := (D, listOf ys c) :: news) (C2.sub (by tb_start)) (List.forall_mem_cons.2 ⟨neN (by omega), r⟩) rfl rfl rfl ho2 fun h3 o2' d2 C3 => ?_
  exact fin h3 tk2 o2' D c ys l2 d2 hys (fun q hq => lt q (.tail _ hq)) lt2 C3
set_option maxRecDepth 100000 in
set_option maxHeartbeats 2000000 in
theorem size_step {D c n : Nat} {ys : Array Value} {o2 : Obj} (C : Cx w p loose mean mg mb A₀ base outer h₀ L m s.heap news)
  (m1 : (D, listOf ys c) ∈ news) (m2 : (L + 2, o2) ∈ news) (ho2 : o2.data = .cell (some (.ref D))) (hn : ys.size = n) (hz : n < 64)
  (fin : ∀ (h : Heap) (tk : Nat) (tn : Tok), s.toks ≤ tk → Cx w p loose mean mg mb A₀ base outer h₀ L (fun z => if z = Str.ofString "size" then some (.int (n : Int) tn) else m z) h news → Q .next { s with heap := h, toks := tk }) :
  wpAny (model PySem.Challenge.pw_ij0047_01 w) (lawA dp un gd L outer) (exec (stAt (bodyOf (topSt 39)) 2) (lawEnv L)) Q E s := by
  obtain ⟨B, F, X, N, T, XB, TB⟩ := C
  have sz : (ys.size : Int) = (n : Int) := Ar.cast hn
  refine wpAny_Assign_Name ?_ (by with_unfolding_all rfl)
  k_steps
  rename News _ _ _ _ => N2
  refine ⟨kun_lenL (News.isList N2 m1) sz (Ar.le16 hz) ?_⟩
  k_steps
  exact fin _ _ _ (by dsimp only; omega) (by kwd_rel)
end

section
variable {w : World} {p : Program} {loose : List Str} {mean : ExcName → Option Value} {mg mb : Str → Option Value} {dp un : Nat} {gd : Option (List Code)} {outer : List Env} {A₀ : Around} {base h₀ : Heap} {L : Addr} {m m0 : Str → Option Value} {news rest : List (Addr × Obj)} {s : Shared} {E : Value → Shared → Prop} {Q : Flow → Shared → Prop}
set_option maxRecDepth 100000 in
set_option maxHeartbeats 2000000 in
theorem apart_step {lp lq n : Nat} {ps qs : List Value} {fp fq : List Int} {tn : Tok} {o3 o4 : Obj} (C : Cx w p loose mean mg mb A₀ base outer h₀ L m s.heap news) (hsz : m (Str.ofString "size") = some (.int (n : Int) tn)) (hd : dp + 8 < recursionLimit) (hu : un + 40 < cLine)
  (mp : (lp, lstO ps) ∈ news) (mq : (lq, lstO qs) ∈ news) (hp : IntsAre ps fp) (hq : IntsAre qs fq) (hpn : fp.length = n) (hqn : fq.length = n) (hn : n < 64) (bp : ∀ k, 0 ≤ fp.getD k 0 ∧ fp.getD k 0 < 64) (bq : ∀ k, 0 ≤ fq.getD k 0 ∧ fq.getD k 0 < 64)
  (m3 : (L + 3, o3) ∈ news) (ho3 : o3.data = .cell (some (.ref lp))) (m4 : (L + 4, o4) ∈ news) (ho4 : o4.data = .cell (some (.ref lq)))
  (fin : ∀ (h : Heap) (tk : Nat) (ta : Tok), Cx w p loose mean mg mb A₀ base outer h₀ L (fun z => if z = Str.ofString "apart" then some (.int (OO.sumA fp fq n) ta) else m z) h news → Q .next { s with heap := h, toks := tk }) :
  wpAny (model PySem.Challenge.pw_ij0047_01 w) (lawA dp un gd L outer) (exec (stAt (bodyOf (topSt 39)) 5) (lawEnv L)) Q E s := by
  refine wpAny_Assign_Name ?_ (by with_unfolding_all rfl)
  obtain ⟨B, F, X, N, T, XB, TB⟩ := id C
  k_steps
  refine ⟨apart_comp C hd hu mp mq hp hq hpn hqn hn bp bq m3 ho3 m4 ho4 hsz fun D h1 tk1 c ys hys nD C1 => ?_⟩
  clear F N
  have F1 := C1.F
  have N1 := C1.N
  k_steps
  refine ⟨sumK rfl F1 N1 (News.isList N1 (.head _)) hys fun h2 tk2 ta F2 N2 => ?_⟩
  show wpAny _ _ (storeName _ _ (.int (OO.sumA fp fq n) ta)) _ _ _
  clear F1 N1 C1 C
  k_steps
  exact fin _ _ _ (by kwd_rel)
set_option maxRecDepth 100000 in
set_option maxHeartbeats 2000000 in
theorem cube_step {n : Nat} {S : Int} {tn ta : Tok} (hn : n < 64) (C : Cx w p loose mean mg mb A₀ base outer h₀ L (fun z => if z = Str.ofString "apart" then some (.int S ta) else if z = Str.ofString "size" then some (.int (n : Int) tn) else m0 z) s.heap news)
  (fin : ∀ (h : Heap) (tk : Nat) (tc : Tok), Cx w p loose mean mg mb A₀ base outer h₀ L (fun z => if z = Str.ofString "cube" then some (.int ((n : Int) * n * n - n) tc) else if z = Str.ofString "apart" then some (.int S ta) else if z = Str.ofString "size" then some (.int (n : Int) tn) else m0 z) h news → Q .next { s with heap := h, toks := tk }) :
  wpAny (model PySem.Challenge.pw_ij0047_01 w) (lawA dp un gd L outer) (exec (stAt (bodyOf (topSt 39)) 6) (lawEnv L)) Q E s := by
  refine wpAny_Assign_Name ?_ (by with_unfolding_all rfl)
  obtain ⟨B, F, X, N, T, XB, TB⟩ := C
  k_steps

  exact fin _ _ _ (by kwd_rel)
set_option maxRecDepth 100000 in
set_option maxHeartbeats 2000000 in
theorem due_step {n : Nat} {S K : Int} {tn ta tc : Tok} (C : Cx w p loose mean mg mb A₀ base outer h₀ L (fun z => if z = Str.ofString "cube" then some (.int K tc) else if z = Str.ofString "apart" then some (.int S ta) else if z = Str.ofString "size" then some (.int (n : Int) tn) else m0 z) s.heap news)
  (hK : 0 < K) (hK2 : K < 2 ^ 20) (hS : 0 ≤ S) (hS2 : S < 2 ^ 20)
  (fin : ∀ (h : Heap) (tk : Nat) (td : Tok) (f : UInt64), Rd f (K - S * 6) K.natAbs →
    Cx w p loose mean mg mb A₀ base outer h₀ L (fun z => if z = Str.ofString "due" then some (.float f td) else if z = Str.ofString "cube" then some (.int K tc) else if z = Str.ofString "apart" then some (.int S ta) else if z = Str.ofString "size" then some (.int (n : Int) tn) else m0 z) h news →
    Q .next { s with heap := h, toks := tk }) :
  wpAny (model PySem.Challenge.pw_ij0047_01 w) (lawA dp un gd L outer) (exec (stAt (bodyOf (topSt 39)) 7) (lawEnv L)) Q E s := by
  refine wpAny_Assign_Name ?_ (by with_unfolding_all rfl)
  obtain ⟨B, F, X, N, T, XB, TB⟩ := C
  have hK0 : K ≠ 0 := by omega
  have hK1 : ¬ K = 0 := by omega
  k_steps
  exact fin _ _ _ _ (Rd.frac hK (by omega)) (by kwd_rel)
end

theorem corVal_congr {n : Nat} {p q p' q' : Nat → Nat} {f : UInt64} (hp : ∀ i, i < n → p i = p' i) (hq : ∀ i, i < n → q i = q' i) (h : CorVal n p q f) : CorVal n p' q' f := by
  have e1 : DD n p q = DD n p' q' := by unfold DD; exact sumI_congr n fun i hi => by rw [hp i hi, hq i hi]
  have e2 : DD n p p = DD n p' p' := by unfold DD; exact sumI_congr n fun i hi => by rw [hp i hi]
  unfold CorVal at *
  rw [← e1, ← e2]; exact h
section
variable {w : World} {p : Program} {loose : List Str} {mean : ExcName → Option Value} {mg mb : Str → Option Value} {dp un : Nat} {gd : Option (List Code)} {outer : List Env} {A₀ : Around} {base h₀ : Heap} {L : Addr} {m m0 : Str → Option Value} {news rest : List (Addr × Obj)} {s : Shared} {E : Value → Shared → Prop} {Q : Flow → Shared → Prop}
set_option maxRecDepth 100000 in
set_option maxHeartbeats 2000000 in
theorem cor_keys {l1 l2 : Nat} {ks1 ks2 : List (Array UInt8 × Tok)} {ns : List Nat} {key1 key2 : Nat → Array UInt8} {tm : Tok} {Qv : Value → Shared → Prop} (C : Cx w p loose mean mg mb A₀ base outer h₀ L m s.heap news) (hD : Docs base) (hd : dp + 80 < recursionLimit) (hu : un + 300 < cLine)
  (K1 : OO.KeyList key1 ns ks1) (K2 : OO.KeyList key2 ns ks2) (i1 : ∀ i j, i < ns.length → j < ns.length → key1 (ns.getD i 0) = key1 (ns.getD j 0) → i = j) (i2 : ∀ i j, i < ns.length → j < ns.length → key2 (ns.getD i 0) = key2 (ns.getD j 0) → i = j)
  (h2 : 2 ≤ ns.length) (hz : ns.length < 64) (m1 : (l1, lstO (ks1.map fun p => Value.bytes p.1 p.2)) ∈ news) (m2 : (l2, lstO (ks2.map fun p => Value.bytes p.1 p.2)) ∈ news)
  (fin : ∀ (g h' : Heap) (tk tk' : Nat) (f : UInt64), KtsTurn (outer.filterMap (·.frame)) h₀ g → CorVal ns.length (rk ns.length fun i => key1 (ns.getD i 0)) (rk ns.length fun i => key2 (ns.getD i 0)) f → Cx w p loose mean mg mb A₀ base outer g L m h' news → Qv (.float f tk) { s with heap := h', toks := tk' }) :
  wpAny (model PySem.Challenge.pw_ij0047_01 w) (lawA dp un gd L outer) (call (.ref 341) [.ref l1, .ref l2] [(Str.ofString "method", .str (Str.ofString "ranked") tm)]) Qv E s := by
  have l1e := K1.len
  have l2e := K2.len
  refine cor_ranked (ks := ks1) (ks' := ks2) (by omega) (by omega) (by omega) ?a1 ?a2 ?a3 ?a4 ?a5 ?a6 C hD rfl (by ktr_room) (by ktr_units) m1 rfl ⟨_, rfl⟩ m2 rfl ⟨_, rfl⟩ fun g h' tk tk' f KT V C' => fin g h' tk tk' f KT ?v C'
  case a1 => intro i j hi hj e; rw [K1.key i (by omega), K1.key j (by omega)] at e; exact i1 i j (by omega) (by omega) e
  case a2 => intro i hi; exact K1.tok i (by omega)
  case a3 => intro i j hi hj hne; exact K1.unlike i j (by omega) (by omega) hne
  case a4 => intro i j hi hj e; rw [K2.key i (by omega), K2.key j (by omega)] at e; exact i2 i j (by omega) (by omega) e
  case a5 => intro i hi; exact K2.tok i (by omega)
  case a6 => intro i j hi hj hne; exact K2.unlike i j (by omega) (by omega) hne
  case v =>
    rw [l1e] at V
    exact corVal_congr (fun i hi => OO.rk_congr (fun j hj => K1.key j hj) hi) (fun i hi => OO.rk_congr (fun j hj => K2.key j hj) hi) V
set_option maxRecDepth 100000 in
set_option maxHeartbeats 2000000 in
theorem cor_if1 {l1 l2 : Nat} {ks1 ks2 : List (Array UInt8 × Tok)} {ns : List Nat} {key1 key2 : Nat → Array UInt8} (C : Cx w p loose mean mg mb A₀ base outer h₀ L m s.heap news) (hD : Docs base) (hd : dp + 80 < recursionLimit) (hu : un + 300 < cLine)
  (K1 : OO.KeyList key1 ns ks1) (K2 : OO.KeyList key2 ns ks2) (i1 : ∀ i j, i < ns.length → j < ns.length → key1 (ns.getD i 0) = key1 (ns.getD j 0) → i = j) (i2 : ∀ i j, i < ns.length → j < ns.length → key2 (ns.getD i 0) = key2 (ns.getD j 0) → i = j)
  (h2 : 2 ≤ ns.length) (hz : ns.length < 64) (m1 : (l1, lstO (ks1.map fun p => Value.bytes p.1 p.2)) ∈ news) (m2 : (l2, lstO (ks2.map fun p => Value.bytes p.1 p.2)) ∈ news)
  (hx : m (Str.ofString "pairs") = some (.ref l1)) (hy : m (Str.ofString "short") = some (.ref l2))
  (hv : ∀ f, CorVal ns.length (rk ns.length fun i => key1 (ns.getD i 0)) (rk ns.length fun i => key2 (ns.getD i 0)) f → Float64.cmp f 4607182418800017408 = some .eq)
  (fin : ∀ (g h' : Heap) (tk' : Nat), KtsTurn (outer.filterMap (·.frame)) h₀ g → Cx w p loose mean mg mb A₀ base outer g L m h' news → Q .next { s with heap := h', toks := tk' }) :
  wpAny (model PySem.Challenge.pw_ij0047_01 w) (lawA dp un gd L outer) (exec (stAt (bodyOf (topSt 39)) 11) (lawEnv L)) Q E s := by
  obtain ⟨B, F, X, N, T, XB, TB⟩ := id C
  have e11 : stAt (bodyOf (topSt 39)) 11 = stAt (bodyOf (topSt 39)) 11 := rfl
  conv at e11 => rhs; whnf
  rw [e11]
  k_steps
  refine wpAny_Name (wpAny_loadName_local rfl (by with_unfolding_all rfl) F.ns hx ?_)
  k_steps
  refine wpAny_Name (wpAny_loadName_local rfl (by with_unfolding_all rfl) F.ns hy ?_)
  k_steps
  obtain ⟨v8, t8, ho8⟩ := (C.docsH hD).cor
  refine ⟨⟨⟨_, _, rfl, ho8⟩, ?_⟩⟩
  show wpAny _ _ (call (Value.ref 341) [_, _] [(Str.ofString "method", _)]) _ _ _
  clear B F X N T
  refine cor_keys (s := ⟨s.heap, s.gens, s.drawn, _, s.os⟩) C hD hd hu K1 K2 i1 i2 h2 hz m1 m2 fun g h' tk tk' f KT V C' => ?_
  have hc := hv f V
  have B' := C'.B
  have F' := C'.F
  have X' := C'.X
  have N' := C'.N
  have T' := C'.T
  clear C
  have hne : (Float64.cmp f 4607182418800017408 != some .eq) = false := by rw [hc]; rfl
  k_steps
  exact fin g h' _ KT C'
set_option maxRecDepth 100000 in
set_option maxHeartbeats 2000000 in
theorem cor_if2 {l1 l2 : Nat} {ks1 ks2 : List (Array UInt8 × Tok)} {ns : List Nat} {key1 key2 : Nat → Array UInt8} (C : Cx w p loose mean mg mb A₀ base outer h₀ L m s.heap news) (hD : Docs base) (hd : dp + 80 < recursionLimit) (hu : un + 300 < cLine)
  (K1 : OO.KeyList key1 ns ks1) (K2 : OO.KeyList key2 ns ks2) (i1 : ∀ i j, i < ns.length → j < ns.length → key1 (ns.getD i 0) = key1 (ns.getD j 0) → i = j) (i2 : ∀ i j, i < ns.length → j < ns.length → key2 (ns.getD i 0) = key2 (ns.getD j 0) → i = j)
  (h2 : 2 ≤ ns.length) (hz : ns.length < 64) (m1 : (l1, lstO (ks1.map fun p => Value.bytes p.1 p.2)) ∈ news) (m2 : (l2, lstO (ks2.map fun p => Value.bytes p.1 p.2)) ∈ news)
  (hx : m (Str.ofString "short") = some (.ref l1)) (hy : m (Str.ofString "long") = some (.ref l2))
  {fd : UInt64} {td : Tok} (hdue : m (Str.ofString "due") = some (.float fd td))
  (hv : ∀ f, CorVal ns.length (rk ns.length fun i => key1 (ns.getD i 0)) (rk ns.length fun i => key2 (ns.getD i 0)) f → Float64.cmp f fd = some .eq)
  (fin : ∀ (g h' : Heap) (tk' : Nat), KtsTurn (outer.filterMap (·.frame)) h₀ g → Cx w p loose mean mg mb A₀ base outer g L m h' news → Q .next { s with heap := h', toks := tk' }) :
  wpAny (model PySem.Challenge.pw_ij0047_01 w) (lawA dp un gd L outer) (exec (stAt (bodyOf (topSt 39)) 12) (lawEnv L)) Q E s := by
  obtain ⟨B, F, X, N, T, XB, TB⟩ := id C
  have e12 : stAt (bodyOf (topSt 39)) 12 = stAt (bodyOf (topSt 39)) 12 := rfl
  conv at e12 => rhs; whnf
  rw [e12]
  k_steps
  refine wpAny_Name (wpAny_loadName_local rfl (by with_unfolding_all rfl) F.ns hx ?_)
  k_steps
  refine wpAny_Name (wpAny_loadName_local rfl (by with_unfolding_all rfl) F.ns hy ?_)
  k_steps
  obtain ⟨v8, t8, ho8⟩ := (C.docsH hD).cor
  refine ⟨⟨⟨_, _, rfl, ho8⟩, ?_⟩⟩
  show wpAny _ _ (call (Value.ref 341) [_, _] [(Str.ofString "method", _)]) _ _ _
  clear B F X N T
  refine cor_keys (s := ⟨s.heap, s.gens, s.drawn, _, s.os⟩) C hD hd hu K1 K2 i1 i2 h2 hz m1 m2 fun g h' tk tk' f KT V C' => ?_
  have hc := hv f V
  have B' := C'.B
  have F' := C'.F
  have X' := C'.X
  have N' := C'.N
  have T' := C'.T
  clear C
  have hne : (Float64.cmp f fd != some .eq) = false := by rw [hc]; rfl
  k_steps
  refine wpAny_Name (wpAny_loadName_local rfl (by with_unfolding_all rfl) F'.ns hdue ?_)
  k_steps
  exact fin g h' _ KT C'
set_option maxRecDepth 100000 in
set_option maxHeartbeats 2000000 in
theorem cor_if3 {l1 l2 : Nat} {ks1 ks2 : List (Array UInt8 × Tok)} {ns : List Nat} {key1 key2 : Nat → Array UInt8} (C : Cx w p loose mean mg mb A₀ base outer h₀ L m s.heap news) (hD : Docs base) (hd : dp + 80 < recursionLimit) (hu : un + 300 < cLine)
  (K1 : OO.KeyList key1 ns ks1) (K2 : OO.KeyList key2 ns ks2) (i1 : ∀ i j, i < ns.length → j < ns.length → key1 (ns.getD i 0) = key1 (ns.getD j 0) → i = j) (i2 : ∀ i j, i < ns.length → j < ns.length → key2 (ns.getD i 0) = key2 (ns.getD j 0) → i = j)
  (h2 : 2 ≤ ns.length) (hz : ns.length < 64) (m1 : (l1, lstO (ks1.map fun p => Value.bytes p.1 p.2)) ∈ news) (m2 : (l2, lstO (ks2.map fun p => Value.bytes p.1 p.2)) ∈ news)
  (hx : m (Str.ofString "long") = some (.ref l1)) (hy : m (Str.ofString "short") = some (.ref l2))
  {fd : UInt64} {td : Tok} (hdue : m (Str.ofString "due") = some (.float fd td))
  (hv : ∀ f, CorVal ns.length (rk ns.length fun i => key1 (ns.getD i 0)) (rk ns.length fun i => key2 (ns.getD i 0)) f → Float64.cmp f fd = some .eq)
  (fin : ∀ (g h' : Heap) (tk' : Nat), KtsTurn (outer.filterMap (·.frame)) h₀ g → Cx w p loose mean mg mb A₀ base outer g L m h' news → Q .next { s with heap := h', toks := tk' }) :
  wpAny (model PySem.Challenge.pw_ij0047_01 w) (lawA dp un gd L outer) (exec (stAt (bodyOf (topSt 39)) 13) (lawEnv L)) Q E s := by
  obtain ⟨B, F, X, N, T, XB, TB⟩ := id C
  have e13 : stAt (bodyOf (topSt 39)) 13 = stAt (bodyOf (topSt 39)) 13 := rfl
  conv at e13 => rhs; whnf
  rw [e13]
  k_steps
  refine wpAny_Name (wpAny_loadName_local rfl (by with_unfolding_all rfl) F.ns hx ?_)
  k_steps
  refine wpAny_Name (wpAny_loadName_local rfl (by with_unfolding_all rfl) F.ns hy ?_)
  k_steps
  obtain ⟨v8, t8, ho8⟩ := (C.docsH hD).cor
  refine ⟨⟨⟨_, _, rfl, ho8⟩, ?_⟩⟩
  show wpAny _ _ (call (Value.ref 341) [_, _] [(Str.ofString "method", _)]) _ _ _
  clear B F X N T
  refine cor_keys (s := ⟨s.heap, s.gens, s.drawn, _, s.os⟩) C hD hd hu K1 K2 i1 i2 h2 hz m1 m2 fun g h' tk tk' f KT V C' => ?_
  have hc := hv f V
  have B' := C'.B
  have F' := C'.F
  have X' := C'.X
  have N' := C'.N
  have T' := C'.T
  clear C
  have hne : (Float64.cmp f fd != some .eq) = false := by rw [hc]; rfl
  k_steps
  refine wpAny_Name (wpAny_loadName_local rfl (by with_unfolding_all rfl) F'.ns hdue ?_)
  k_steps
  exact fin g h' _ KT C'
end

noncomputable def FR1 (j : Nat) : UInt64 := Float64.add (Float64.ofInt j) one64
theorem FR1_ex {j : Nat} (hj : j < 64) : Ex (FR1 j) (256 * ((j : Int) + 1)) := by
  have h1 := (Ex.ofInt (i := (j : Int)) (by omega)).add ex_one64 (by omega)
  have e : (j : Int) * 256 + 256 = 256 * ((j : Int) + 1) := by omega
  rwa [e] at h1
theorem FR1_cmp {j : Nat} (hj : j < 64) : Float64.cmpInt (FR1 j) ((j : Int) + 1) = some .eq := by
  rw [(FR1_ex hj).cmpInt ((j : Int) + 1)]
  have e : 256 * ((j : Int) + 1) = ((j : Int) + 1) * 256 := by omega
  rw [e]
  simp [compare, compareOfLessAndEq]
structure RankList (n : Nat) (q : Nat → Nat) (zs : Array Value) : Prop where
  size : zs.size = n
  at' : ∀ (i : Nat) (v : Value), zs[i]? = some v → ∃ t, v = .float (FR1 (q i)) t
section
variable {w : World} {p : Program} {loose : List Str} {mean : ExcName → Option Value} {mg mb : Str → Option Value} {dp un : Nat} {gd : Option (List Code)} {outer : List Env} {A₀ : Around} {base h₀ : Heap} {L : Addr} {m m0 : Str → Option Value} {news rest : List (Addr × Obj)} {s : Shared} {E : Value → Shared → Prop} {Q : Flow → Shared → Prop}
set_option maxRecDepth 100000 in
set_option maxHeartbeats 2000000 in
theorem rank_keys {l : Nat} {ks : List (Array UInt8 × Tok)} {ns : List Nat} {key : Nat → Array UInt8} {Qv : Value → Shared → Prop} (C : Cx w p loose mean mg mb A₀ base outer h₀ L m s.heap news) (hD : Docs base) (hd : dp + 80 < recursionLimit) (hu : un + 300 < cLine)
  (K1 : OO.KeyList key ns ks) (i1 : ∀ i j, i < ns.length → j < ns.length → key (ns.getD i 0) = key (ns.getD j 0) → i = j)
  (h2 : 2 ≤ ns.length) (hz : ns.length < 64) (m1 : (l, lstO (ks.map fun p => Value.bytes p.1 p.2)) ∈ news)
  (fin : ∀ (g h' : Heap) (tk' r c : Nat) (zs : Array Value), KtsTurn (outer.filterMap (·.frame)) h₀ g → RankList ns.length (rk ns.length fun i => key (ns.getD i 0)) zs → (∀ q ∈ news, q.1 < r) → Cx w p loose mean mg mb A₀ base outer g L m h' ((r, listOf zs c) :: news) → Qv (.ref r) { s with heap := h', toks := tk' }) :
  wpAny (model PySem.Challenge.pw_ij0047_01 w) (lawA dp un gd L outer) (call (.ref 321) [.ref l]) Qv E s := by
  have l1e := K1.len
  refine rank_int (ks := ks) (by omega) (by omega) ?a1 ?a2 ?a3 C hD rfl (by ktr_room) (by ktr_units) m1 rfl ⟨_, rfl⟩ fun g h' tk' r c zs KT ht R lt C' => fin g h' tk' r c zs KT ⟨?b1, ?b2⟩ lt C'
  case a1 => intro i j hi hj e; rw [K1.key i (by omega), K1.key j (by omega)] at e; exact i1 i j (by omega) (by omega) e
  case a2 => intro i hi; exact K1.tok i (by omega)
  case a3 => intro i j hi hj hne; exact K1.unlike i j (by omega) (by omega) hne
  case b1 => rw [R.1, l1e]
  case b2 =>
    intro i v e
    have hi : i < ns.length := by
      rw [Array.getElem?_eq_some_iff] at e
      obtain ⟨h, _⟩ := e
      rw [R.1, l1e] at h; exact h
    obtain ⟨t, ht⟩ := R.vals i v e
    refine ⟨t, ?_⟩
    rw [ht, l1e, OO.rk_congr (fun j hj => K1.key j hj) hi]
    rfl
set_option maxRecDepth 100000 in
set_option maxHeartbeats 2000000 in
theorem below_step {l : Nat} {ks : List (Array UInt8 × Tok)} {ns : List Nat} {key : Nat → Array UInt8} (C : Cx w p loose mean mg mb A₀ base outer h₀ L m s.heap news) (hD : Docs base) (hd : dp + 80 < recursionLimit) (hu : un + 300 < cLine)
  (K1 : OO.KeyList key ns ks) (i1 : ∀ i j, i < ns.length → j < ns.length → key (ns.getD i 0) = key (ns.getD j 0) → i = j)
  (h2 : 2 ≤ ns.length) (hz : ns.length < 64) (m1 : (l, lstO (ks.map fun p => Value.bytes p.1 p.2)) ∈ news) (hx : m (Str.ofString "short") = some (.ref l))
  (fin : ∀ (g h' : Heap) (tk' r c : Nat) (zs : Array Value), KtsTurn (outer.filterMap (·.frame)) h₀ g → RankList ns.length (rk ns.length fun i => key (ns.getD i 0)) zs → (∀ q ∈ news, q.1 < r) → Cx w p loose mean mg mb A₀ base outer g L (fun z => if z = Str.ofString "below" then some (.ref r) else m z) h' ((r, listOf zs c) :: news) → Q .next { s with heap := h', toks := tk' }) :
  wpAny (model PySem.Challenge.pw_ij0047_01 w) (lawA dp un gd L outer) (exec (stAt (bodyOf (topSt 39)) 14) (lawEnv L)) Q E s := by
  refine wpAny_Assign_Name ?_ (by with_unfolding_all rfl)
  obtain ⟨B, F, X, N, T, XB, TB⟩ := id C
  k_steps
  refine wpAny_Name (wpAny_loadName_local rfl (by with_unfolding_all rfl) F.ns hx ?_)
  k_steps
  obtain ⟨v8, t8, ho8⟩ := (C.docsH hD).rank
  refine ⟨⟨⟨_, _, rfl, ho8⟩, ?_⟩⟩
  clear B F X N T
  refine rank_keys (s := s) C hD hd hu K1 i1 h2 hz m1 fun g h' tk' r c zs KT R lt C' => ?_
  have B' := C'.B
  have F' := C'.F
  have X' := C'.X
  have N' := C'.N
  have T' := C'.T
  clear C
  k_steps
  exact fin g _ _ r c zs KT R lt (by kwd_rel)
set_option maxRecDepth 100000 in
set_option maxHeartbeats 2000000 in
theorem beside_step {l : Nat} {ks : List (Array UInt8 × Tok)} {ns : List Nat} {key : Nat → Array UInt8} (C : Cx w p loose mean mg mb A₀ base outer h₀ L m s.heap news) (hD : Docs base) (hd : dp + 80 < recursionLimit) (hu : un + 300 < cLine)
  (K1 : OO.KeyList key ns ks) (i1 : ∀ i j, i < ns.length → j < ns.length → key (ns.getD i 0) = key (ns.getD j 0) → i = j)
  (h2 : 2 ≤ ns.length) (hz : ns.length < 64) (m1 : (l, lstO (ks.map fun p => Value.bytes p.1 p.2)) ∈ news) (hx : m (Str.ofString "long") = some (.ref l))
  (fin : ∀ (g h' : Heap) (tk' r c : Nat) (zs : Array Value), KtsTurn (outer.filterMap (·.frame)) h₀ g → RankList ns.length (rk ns.length fun i => key (ns.getD i 0)) zs → (∀ q ∈ news, q.1 < r) → Cx w p loose mean mg mb A₀ base outer g L (fun z => if z = Str.ofString "beside" then some (.ref r) else m z) h' ((r, listOf zs c) :: news) → Q .next { s with heap := h', toks := tk' }) :
  wpAny (model PySem.Challenge.pw_ij0047_01 w) (lawA dp un gd L outer) (exec (stAt (bodyOf (topSt 39)) 15) (lawEnv L)) Q E s := by
  refine wpAny_Assign_Name ?_ (by with_unfolding_all rfl)
  obtain ⟨B, F, X, N, T, XB, TB⟩ := id C
  k_steps
  refine wpAny_Name (wpAny_loadName_local rfl (by with_unfolding_all rfl) F.ns hx ?_)
  k_steps
  obtain ⟨v8, t8, ho8⟩ := (C.docsH hD).rank
  refine ⟨⟨⟨_, _, rfl, ho8⟩, ?_⟩⟩
  clear B F X N T
  refine rank_keys (s := s) C hD hd hu K1 i1 h2 hz m1 fun g h' tk' r c zs KT R lt C' => ?_
  have B' := C'.B
  have F' := C'.F
  have X' := C'.X
  have N' := C'.N
  have T' := C'.T
  clear C
  k_steps
  exact fin g _ _ r c zs KT R lt (by kwd_rel)
set_option maxRecDepth 100000 in
set_option maxHeartbeats 2000000 in
theorem places_step {r1 r2 c1 c2 lp lq n : Nat} {zs1 zs2 : Array Value} {ps qs : List Value} {fp fq : List Int} {q1 q2 : Nat → Nat} {o3 o4 : Obj} (C : Cx w p loose mean mg mb A₀ base outer h₀ L m s.heap news) (hd : dp + 80 < recursionLimit) (hu : un + 300 < cLine)
  (R1 : RankList n q1 zs1) (R2 : RankList n q2 zs2) (b1 : ∀ i, i < n → q1 i < 64) (b2 : ∀ i, i < n → q2 i < 64) (hn : n < 64)
  (w1 : (r1, listOf zs1 c1) ∈ news) (w2 : (r2, listOf zs2 c2) ∈ news) (hx : m (Str.ofString "below") = some (.ref r1)) (hy : m (Str.ofString "beside") = some (.ref r2))
  (mp : (lp, lstO ps) ∈ news) (mq : (lq, lstO qs) ∈ news) (hp : IntsAre ps fp) (hq : IntsAre qs fq) (hpn : fp.length = n) (hqn : fq.length = n)
  (m3 : (L + 3, o3) ∈ news) (ho3 : o3.data = .cell (some (.ref lp))) (m4 : (L + 4, o4) ∈ news) (ho4 : o4.data = .cell (some (.ref lq)))
  (e1 : ∀ i, i < n → fp.getD i 0 = (q1 i : Int)) (e2 : ∀ i, i < n → fq.getD i 0 = (q2 i : Int))
  (fin : ∀ (h' : Heap) (tk' : Nat), Cx w p loose mean mg mb A₀ base outer h₀ L m h' news → Q .next { s with heap := h', toks := tk' }) :
  wpAny (model PySem.Challenge.pw_ij0047_01 w) (lawA dp un gd L outer) (exec (stAt (bodyOf (topSt 39)) 16) (lawEnv L)) Q E s := by
  have cmpV : ∀ {zs : Array Value} {f : List Int} {q : Nat → Nat}, RankList n q zs → f.length = n → (∀ i, i < n → q i < 64) → (∀ i, i < n → f.getD i 0 = (q i : Int)) →
      ∀ (i : Nat) (v : Value), zs[i]? = some v → ∃ fl t, v = .float fl t ∧ Float64.cmpInt fl ((f.map (· + 1)).getD i 0) = some .eq := by
    intro zs f q R hf hb he i v e
    have hi : i < n := by
      rw [Array.getElem?_eq_some_iff] at e
      obtain ⟨h, _⟩ := e
      rw [R.size] at h; exact h
    obtain ⟨t, ht⟩ := R.at' i v e
    refine ⟨_, t, ht, ?_⟩
    have e3 : (f.map (· + 1)).getD i 0 = (q i : Int) + 1 := by
      rw [← he i hi, List.getD, List.getD, List.getElem?_map, List.getElem?_eq_getElem (by omega)]; rfl
    rw [e3]
    exact FR1_cmp (hb i hi)
  obtain ⟨B, F, X, N, T, XB, TB⟩ := id C
  have e16 : stAt (bodyOf (topSt 39)) 16 = stAt (bodyOf (topSt 39)) 16 := rfl
  conv at e16 => rhs; whnf
  rw [e16]
  k_steps
  refine wpAny_Name (wpAny_loadName_local rfl (by with_unfolding_all rfl) F.ns hx ?_)
  k_steps
  refine ⟨incs_plain C mp hp (by omega) m3 ho3 fun D1 h1 tk1 ys1 hys1 l1 lt1 C1 => ?_⟩
  clear F N
  have F1 := C1.F
  have N1 := C1.N
  k_steps
  refine ⟨ne_list_fi (News.isList N1 (.tail _ w1)) (News.isList N1 (.head _)) (by rw [R1.size, List.length_map, hpn]) hys1 (cmpV R1 hpn b1 e1) (by ktr_units) ?_⟩
  k_steps
  refine wpAny_Name (wpAny_loadName_local rfl (by with_unfolding_all rfl) F1.ns hy ?_)
  k_steps
  refine ⟨incs_stirred (C1.sub (news' := news) (by tb_start)) mq hq (by omega) m4 ho4 fun D2 h2 tk2 ys2 hys2 l2 lt2 C2 => ?_⟩
  clear F1 N1
  have F2 := C2.F
  have N2 := C2.N
  k_steps
  refine ⟨ne_list_fi (News.isList N2 (.tail _ w2)) (News.isList N2 (.head _)) (by rw [R2.size, List.length_map, hqn]) hys2 (cmpV R2 hqn b2 e2) (by ktr_units) ?_⟩
  k_steps
  exact fin _ _ (C2.sub (by tb_start))
end

section
variable {w : World} {A : Around} {P : Params} {E : Value → Shared → Prop}
theorem lr_getitem_at (x dx : Addr) (a b : Value) (u : Tok) :
    Meets (Builtin.«tuple.__getitem__» ⟨[.ref x, .int 0 u], []⟩)
      (fun _ R s => s.heap.get? x = some (lrObj dx #[a, b]) ∧ R (.ok (.ret a)) s) :=
  .of_wp fun prog w A R s h => by
    obtain ⟨hp, g, d, tk, os⟩ := s; obtain ⟨hl, h⟩ := h
    have f1 := AutoSeq1.idx_int
    have hk : seqIndex? 0 (#[a, b] : Array Value).size = some 0 := by rfl
    wp_walk using AutoSeq1.wpAny_loadPart' hl
    exact ⟨_, rfl, h⟩
theorem lr_getcode {x dx : Nat} {a b : Value} {u : Tok} {s : Shared} {R : Result → Shared → Prop} (y6 : Looks (model PR w) s.heap (isInstance (.ref x) (.type "tuple")) true) (ho : s.heap.get? x = some (lrObj dx #[a, b])) (h : R (.ok (.ret a)) s) :
    codeAny (model PR w) A (.call (.builtin "tuple.__getitem__") ⟨[.ref x, .int 0 u], []⟩) R s := by
  have qt : (Code.builtin "tuple.__getitem__" ⟨[.ref x, .int 0 u], []⟩).quiet = true := Code.quiet_builtin _ (by decide +kernel)
  refine codeAny_call_builtin_at qt F.entry_tuple_getitem (check_slot (i := "tuple.__getitem__") (owner := "tuple") (n := "__getitem__") (self := .ref x) (rest := [.int 0 u]) (kw := []) (by decide +kernel) (by decide +kernel) y6 (F.args_tuple_getitem_2 _ _) ?_)
  rw [Around.under_plainId F.slot_tuple_getitem.plain _]
  exact lr_getitem_at x dx a b u _ _ _ R _ ⟨ho, h⟩
set_option maxRecDepth 100000 in
set_option maxHeartbeats 2000000 in
theorem lr_item {value slice : Expr} {x dx : Nat} {a b : Value} {u : Tok} {s : Shared} {Q : Value → Shared → Prop} (X : (KM P).In s.heap) (ho : s.heap.get? x = some (lrObj dx #[a, b])) (h : Q a s)
    (hs : subscripted slice false (.ref x) (.int 0 u) = operate [.ref x, .int 0 u] (getItem (.ref x) (.int 0 u)) := by with_unfolding_all rfl) : wpAny (model PR w) A (subscriptTail value slice (.ref x) (.int 0 u)) Q E s := by
  obtain ⟨hp, g, d, tk, os⟩ := s
  have y2 : Looks (model PR w) hp (typeOf (.ref x)) (.ref 409) := (Looks.ld ho).andThen .now
  have y3 : Looks (model PR w) hp (typeLookup (.ref 409) (Str.ofString "__getitem__")) (some (.builtin "tuple.__getitem__")) := looks_findIn X (by rfl)
  have y4 : Looks (model PR w) hp (isSubtype (.ref 409) (.type "collections.deque")) false := looks_subIn X (by rfl)
  have y5 : Looks (model PR w) hp (isSubtype (.ref 409) (.type "tuple")) true := looks_subIn X (by rfl)
  have y6 : Looks (model PR w) hp (isInstance (.ref x) (.type "tuple")) true := y2.andThen y5
  unfold subscriptTail getitemInPython specialOf
  refine wpAny_bind (wpAny_bind (wpAny_bind (y2.at (y3.at (wpAny_pure ?_)))))
  rw [hs]
  refine wpAny_bind (wpAny_operating ?_)
  refine wpAny_mono (Q := fun r s' => r = a ∧ Q a s') ?_ (fun r s' hr => ?_) fun _ _ e => e
  rotate_left
  · obtain ⟨rfl, hr⟩ := hr
    exact wpAny_bind (wpAny_letTemporaryGo (wpAny_pure hr))
  unfold getItem sequenceKey callSpecial? specialOf
  have bd := F.slot_tuple_getitem.bind (.ref x)
  repeat ((fail_if_success (with_reducible show wpAny _ _ (call _ _ _) _ _ _)); (first | lk | simp only [seqItemTypes, List.anyM, Bool.not_true, Bool.not_false, Bool.false_eq_true, if_false, if_true, bd]))
  show wpAny _ _ (call (Value.builtin "tuple.__getitem__") [.ref x, .int 0 u]) _ _ _
  exact wpAny_call (lr_getcode y6 ho (wpAny_pure (wpAny_pure ⟨rfl, h⟩)))
end

section
variable {w : World} {p : Program} {loose : List Str} {mean : ExcName → Option Value} {mg mb : Str → Option Value} {dp un : Nat} {gd : Option (List Code)} {outer : List Env} {A₀ : Around} {base h₀ : Heap} {L : Addr} {m m0 : Str → Option Value} {news rest : List (Addr × Obj)} {s : Shared} {E : Value → Shared → Prop} {Q : Flow → Shared → Prop}
set_option maxRecDepth 100000 in
set_option maxHeartbeats 2000000 in
theorem lin_if {r1 r2 c1 c2 n : Nat} {zs1 zs2 : Array Value} {q1 q2 : Nat → Nat} {fd : UInt64} {td : Tok} (C : Cx w p loose mean mg mb A₀ base outer h₀ L m s.heap ((415, tabObj #[]) :: news)) (hD : Docs base) (hd : dp + 100 < recursionLimit) (hu : un + 400 < cLine)
  (r : ∀ q ∈ news, q.1 ≠ 415) (R1 : RankList n q1 zs1) (R2 : RankList n q2 zs2) (P1 : Bij n q1) (P2 : Bij n q2) (h2 : 2 ≤ n) (hn : n < 64)
  (w1 : (r1, listOf zs1 c1) ∈ news) (w2 : (r2, listOf zs2 c2) ∈ news) (hx : m (Str.ofString "below") = some (.ref r1)) (hy : m (Str.ofString "beside") = some (.ref r2)) (hgb : AllBare s.gens)
  (hdue : m (Str.ofString "due") = some (.float fd td)) (hv : ∀ f, Rd f (64 * DD n q1 q2) (64 * DD n q1 q1).natAbs → Float64.cmp f fd = some .eq)
  (fin : ∀ (g h' : Heap) (gs : Array GenState) (tk' : Nat) (ps' : Array Value), KtsTurn (outer.filterMap (·.frame)) h₀ g → AllBare gs → Cx w p loose mean mg mb A₀ base outer g L m h' ((415, tabObj ps') :: news) → Q .next { s with heap := h', gens := gs, toks := tk' }) :
  wpAny (model PySem.Challenge.pw_ij0047_01 w) (lawA dp un gd L outer) (exec (stAt (bodyOf (topSt 39)) 17) (lawEnv L)) Q E s := by
  obtain ⟨B, F, X, N, T, XB, TB⟩ := id C
  have e17 : stAt (bodyOf (topSt 39)) 17 = stAt (bodyOf (topSt 39)) 17 := rfl
  conv at e17 => rhs; whnf
  rw [e17]
  k_steps
  refine wpAny_Name (wpAny_loadName_local rfl (by with_unfolding_all rfl) F.ns hx ?_)
  k_steps
  refine wpAny_Name (wpAny_loadName_local rfl (by with_unfolding_all rfl) F.ns hy ?_)
  k_steps
  obtain ⟨v8, t8, ho8⟩ := (C.docsH hD).lin
  refine ⟨⟨⟨_, _, rfl, ho8⟩, ?_⟩⟩
  clear B F X N T
  refine lin_call (s := s) (n := n) (fx := fun i => FR1 (q1 i)) (fy := fun i => FR1 (q2 i)) (p₁ := q1) (p₂ := q2) h2 hn R1.size R2.size C hD rfl (by ktr_room) (by ktr_units) r w1 rfl ⟨_, rfl⟩ w2 rfl ⟨_, rfl⟩ R1.at' R2.at' (fun i hi => FR1_ex (by have := P1.lt i hi; omega)) (fun i hi => FR1_ex (by have := P2.lt i hi; omega)) P1 P2 hgb ?_
  intro g h' gs tk' x dx ps' f f2 t1 t2 KT hgs hR C'
  have hc := hv f hR
  have hne : (Float64.cmp f fd != some .eq) = false := by rw [hc]; rfl
  have B' := C'.B
  have F' := C'.F
  have X' := C'.X
  have N' := C'.N
  have T' := C'.T
  clear C
  k_steps
  refine ⟨lr_item (X'.keeps F'.keep) (N' _ (.head _)).1 ?_⟩
  k_steps
  refine wpAny_Name (wpAny_loadName_local rfl (by with_unfolding_all rfl) F'.ns hdue ?_)
  k_steps
  exact fin g h' gs _ ps' KT hgs (C'.sub (by tb_start))
set_option maxRecDepth 100000 in
set_option maxHeartbeats 2000000 in
theorem cov_ret {r1 r2 c1 c2 n : Nat} {zs1 zs2 : Array Value} {q1 q2 : Nat → Nat} {K S : Int} {tc ta tn : Tok} (C : Cx w p loose mean mg mb A₀ base outer h₀ L m s.heap ((330, tabObj #[]) :: news)) (hD : Docs base) (hd : dp + 100 < recursionLimit) (hu : un + 400 < cLine)
  (r : ∀ q ∈ news, q.1 ≠ 330) (R1 : RankList n q1 zs1) (R2 : RankList n q2 zs2) (P1 : Bij n q1) (P2 : Bij n q2) (h2 : 2 ≤ n) (hn : n < 64)
  (w1 : (r1, listOf zs1 c1) ∈ news) (w2 : (r2, listOf zs2 c2) ∈ news) (hx : m (Str.ofString "below") = some (.ref r1)) (hy : m (Str.ofString "beside") = some (.ref r2)) (hgb : AllBare s.gens)
  (hcu : m (Str.ofString "cube") = some (.int K tc)) (hap : m (Str.ofString "apart") = some (.int S ta)) (hsz : m (Str.ofString "size") = some (.int (n : Int) tn)) (hKS : K - S * 6 = 3 * DD n q1 q2) (hK : (K - S * 6).natAbs < 2 ^ 53)
  (fin : ∀ (g h' : Heap) (gs : Array GenState) (tk' : Nat) (ps' : Array Value), KtsTurn (outer.filterMap (·.frame)) h₀ g → AllBare gs → Cx w p loose mean mg mb A₀ base outer g L m h' ((330, tabObj ps') :: news) → Q (.ret (.bool true)) { s with heap := h', gens := gs, toks := tk' }) :
  wpAny (model PySem.Challenge.pw_ij0047_01 w) (lawA dp un gd L outer) (exec (stAt (bodyOf (topSt 39)) 18) (lawEnv L)) Q E s := by
  obtain ⟨B, F, X, N, T, XB, TB⟩ := id C
  have e18 : stAt (bodyOf (topSt 39)) 18 = stAt (bodyOf (topSt 39)) 18 := rfl
  conv at e18 => rhs; whnf
  rw [e18]
  k_steps
  refine wpAny_Name (wpAny_loadName_local rfl (by with_unfolding_all rfl) F.ns hx ?_)
  k_steps
  refine wpAny_Name (wpAny_loadName_local rfl (by with_unfolding_all rfl) F.ns hy ?_)
  k_steps
  obtain ⟨v8, t8, ho8⟩ := (C.docsH hD).cov
  refine ⟨⟨⟨_, _, rfl, ho8⟩, ?_⟩⟩
  clear B F X N T
  refine cov_call (s := s) (n := n) (fx := fun i => FR1 (q1 i)) (fy := fun i => FR1 (q2 i)) (p₁ := q1) (p₂ := q2) h2 hn R1.size R2.size C hD rfl (by ktr_room) (by ktr_units) r w1 rfl ⟨_, rfl⟩ w2 rfl ⟨_, rfl⟩ R1.at' R2.at' (fun i hi => FR1_ex (by have := P1.lt i hi; omega)) (fun i hi => FR1_ex (by have := P2.lt i hi; omega)) P1 P2 hgb ?_
  intro g h' gs tk tk' ps' f KT hgs hR C'
  have B' := C'.B
  have F' := C'.F
  have X' := C'.X
  have N' := C'.N
  have T' := C'.T
  clear C
  k_steps
  refine wpAny_Name (wpAny_loadName_local rfl (by with_unfolding_all rfl) F'.ns hcu ?_)
  k_steps
  refine wpAny_Name (wpAny_loadName_local rfl (by with_unfolding_all rfl) F'.ns hap ?_)
  k_steps
  refine wpAny_Name (wpAny_loadName_local rfl (by with_unfolding_all rfl) F'.ns hsz ?_)
  have hnz : (n : Int) * 12 - 12 ≠ 0 := Int.ne_of_gt (Ar.n12p h2)
  k_steps
  have hr := Rd.frac (a := K - S * 6) (b := (n : Int) * 12 - 12) (Ar.n12p h2) hK
  have a1 : (((n : Int) * 12 - 12).natAbs : Int) = (n : Int) * 12 - 12 := Int.natAbs_of_nonneg (Int.le_of_lt (Ar.n12p h2))
  have a2 : ((((n : Int) - 1) * 256).natAbs : Int) = ((n : Int) - 1) * 256 := Int.natAbs_of_nonneg (Int.le_of_lt (Ar.p2561 h2))
  have e := Rd.eq hR hr (by rw [a1, a2, hKS]; grind)
  have e2 : (Float64.cmp f (Float64.ofFrac (decide (K - S * 6 < 0) != decide ((n : Int) * 12 - 12 < 0)) (K - S * 6).natAbs ((n : Int) * 12 - 12).natAbs) == some Ordering.eq) = true := by rw [e]; rfl
  refine (congrArg (fun b => Q (.ret (.bool b)) _) e2).mpr ?_
  exact fin g h' gs _ ps' KT hgs (C'.sub (by tb_start))
end

section
open PySem.Float64
theorem ex_one : Ex 4607182418800017408 256 := ⟨fin_of (by decide +kernel), by decide +kernel⟩
theorem DD_comm (n : Nat) (p q : Nat → Nat) : DD n p q = DD n q p := by unfold DD; exact sumI_congr n fun i _ => Int.mul_comm _ _
theorem cmp_one {n : Nat} {p q : Nat → Nat} {f : UInt64} (h : CorVal n p q f) (e : ∀ i, i < n → p i = q i) : cmp f 4607182418800017408 = some .eq := by
  have h' := corVal_congr (p' := p) (q' := p) (fun _ _ => rfl) (fun i hi => (e i hi).symm) h
  rw [(h'.2 rfl).cmp ex_one]; rfl
theorem cmp_due {n : Nat} {p q : Nat → Nat} {f fd : UInt64} {K S : Int} (P : Bij n p) (R : Bij n q) (h2 : 2 ≤ n) (hn : n < 64) (hK : K = (n : Int) * n * n - n) (hS : S = AA n p q)
    (h : Rd f (64 * DD n p q) (64 * DD n p p).natAbs) (hd : Rd fd (K - S * 6) K.natAbs) : cmp f fd = some .eq := by
  have b := DD_bounds P h2 hn
  have c := OO.cube_pos h2
  have d := DD_self P
  have e := spear P R
  have a1 : (K.natAbs : Int) = K := Ar.d1 d b.1 hK
  have a2 : ((64 * DD n p p).natAbs : Int) = 64 * DD n p p := Ar.dn b.1
  have a3 : K - S * 6 = 3 * DD n p q := by rw [hK]; exact Ar.dd1 hS e
  have a4 : K = 3 * DD n p p := hK.trans d.symm
  refine Rd.eq h hd ?_
  rw [a1, a2, a3, a4]; grind
end
namespace OO
theorem map_getD {ns : List Nat} {g : Nat → Int} {k : Nat} : (ns.map g).getD k 0 = if k < ns.length then g (ns.getD k 0) else 0 := by
  rw [List.getD, List.getElem?_map]
  split
  · rename_i h
    rw [List.getD, List.getElem?_eq_getElem h]; rfl
  · rename_i h
    rw [List.getElem?_eq_none (by omega)]; rfl
theorem cnt_bound {ns : List Nat} (hz : ns.length < 64) (f : Nat → Nat → Bool) (k : Nat) : 0 ≤ (ns.map fun a => ((ns.countP (f a) : Nat) : Int)).getD k 0 ∧ (ns.map fun a => ((ns.countP (f a) : Nat) : Int)).getD k 0 < 64 := by
  rw [map_getD]
  split
  · have := List.countP_le_length (p := f (ns.getD k 0)) (l := ns)
    omega
  · omega
theorem sumA_AA {ns : List Nat} {n : Nat} {fp fq : List Int} {p q : Nat → Nat} (e1 : ∀ i, i < n → fp.getD i 0 = (p i : Int)) (e2 : ∀ i, i < n → fq.getD i 0 = (q i : Int)) : sumA fp fq n = AA n p q := by
  unfold sumA AA
  rw [sumI_list]
  refine congrArg List.sum (List.map_congr_left fun i hi => ?_)
  rw [e1 i (List.mem_range.1 hi), e2 i (List.mem_range.1 hi)]
theorem alt_inj (h : Int) (u v : Nat) (hu : u < 64) (hv : v < 64) (e : (sg (alt1 h).toUInt8 (alt2 h).toUInt8 u).toNat = (sg (alt1 h).toUInt8 (alt2 h).toUInt8 v).toNat) : u = v := by
  obtain ⟨l1, l2, n1, n2, ne⟩ := alts_ok h
  have t1 : (alt1 h).toUInt8.toNat = alt1 h := by rw [UInt8.toNat_ofNat']; exact Nat.mod_eq_of_lt l1
  have t2 : (alt2 h).toUInt8.toNat = alt2 h := by rw [UInt8.toNat_ofNat']; exact Nat.mod_eq_of_lt l2
  exact sg_inj (by rw [t1]; exact n1) (by rw [t2]; exact n2) (by rw [t1, t2]; exact ne) u v hu hv e
end OO

section
variable {M : Model} {A : Around} {env : Env} {s : Shared} {Q : Flow → Shared → Prop} {E : Value → Shared → Prop}
theorem exec_from {i : Nat} (hi : i < 19) (hn : 0 < s.toks) (h : wpAny M A (exec (stAt (bodyOf (topSt 39)) i) env) (fun f s' => 0 < s'.toks → match f with | .next => wpAny M A (execs ((bodyOf (topSt 39)).drop (i + 1)) env) Q E s' | f => Q f s') (fun e s' => 0 < s'.toks → E e s') s) :
    wpAny M A (execs ((bodyOf (topSt 39)).drop i) env) Q E s := exec_at hi (wpAny_with_toks (n := 1) hn h)
end
section
variable {w : World} {p : Program} {loose : List Str} {mean : ExcName → Option Value} {mg mb : Str → Option Value} {dp un : Nat} {gd : Option (List Code)} {outer : List Env} {A₀ : Around} {base h₀ : Heap} {L : Addr} {m m0 : Str → Option Value} {news rest : List (Addr × Obj)} {s : Shared} {E : Value → Shared → Prop} {Q : Flow → Shared → Prop}
/-- what stands after the first eight lines -/
structure Half (ns : List Nat) (a1 a2 : UInt8) (L : Addr) (m : Str → Option Value) (news : List (Addr × Obj)) (D Dp Dq : Nat) (fd : UInt64) : Prop where
  cells : ∃ o1 o2 o3 o4 tal, (L + 1, o1) ∈ news ∧ o1.data = .cell (some (.bytes #[a1, a2] tal)) ∧ (L + 2, o2) ∈ news ∧ o2.data = .cell (some (.ref D)) ∧ (L + 3, o3) ∈ news ∧ o3.data = .cell (some (.ref Dp)) ∧ (L + 4, o4) ∈ news ∧ o4.data = .cell (some (.ref Dq))
  nums : ∃ ys c, (D, listOf ys c) ∈ news ∧ IntsAre ys.toList (ns.map Int.ofNat)
  plain : ∃ ps, (Dp, lstO ps) ∈ news ∧ IntsAre ps (ns.map fun a => ((ns.countP (fun b => decide (b < a)) : Nat) : Int))
  stirred : ∃ qs, (Dq, lstO qs) ∈ news ∧ IntsAre qs (ns.map fun a => ((ns.countP (fun b => OO.ahead a1 a2 b a) : Nat) : Int))
  size : ∃ tn, m (Str.ofString "size") = some (.int (ns.length : Int) tn)
  apart : ∃ ta, m (Str.ofString "apart") = some (.int (OO.sumA (ns.map fun a => ((ns.countP (fun b => decide (b < a)) : Nat) : Int)) (ns.map fun a => ((ns.countP (fun b => OO.ahead a1 a2 b a) : Nat) : Int)) ns.length) ta)
  cube : ∃ tc, m (Str.ofString "cube") = some (.int ((ns.length : Int) * ns.length * ns.length - ns.length) tc)
  due : ∃ td, m (Str.ofString "due") = some (.float fd td)
  rd : Rd fd (((ns.length : Int) * ns.length * ns.length - ns.length) - OO.sumA (ns.map fun a => ((ns.countP (fun b => decide (b < a)) : Nat) : Int)) (ns.map fun a => ((ns.countP (fun b => OO.ahead a1 a2 b a) : Nat) : Int)) ns.length * 6) ((ns.length : Int) * ns.length * ns.length - ns.length).natAbs
theorem law_half {l : Nat} {vs : List Value} {script : List Int} {o1 o2 o3 o4 : Obj} {v1 v2 v3 v4 : Option Value} (C : Cx w p loose mean mg mb A₀ base outer h₀ L m s.heap ((L + 1, o1) :: (L + 2, o2) :: (L + 3, o3) :: (L + 4, o4) :: news)) (hd : dp + 100 < recursionLimit) (hu : un + 400 < cLine)
  (hl : h₀.IsList l vs.toArray) (hi : IntsAre vs script) (hm : script.length < 64) (d1 : o1.data = .cell v1) (d2 : o2.data = .cell v2) (d3 : o3.data = .cell v3) (d4 : o4.data = .cell v4) (hsc : m (Str.ofString "script") = some (.ref l)) (r : ∀ q ∈ news, @LT.lt Nat _ q.1 L)
  (fin : ∀ (h : Heap) (tk : Nat) (m' : Str → Option Value) (news' : List (Addr × Obj)) (D Dp Dq : Nat) (fd : UInt64), 0 < tk → (∀ q ∈ news', @LT.lt Nat _ L q.1) → Half (OO.numbersOf script) (OO.alt1 (script.headD 0)).toUInt8 (OO.alt2 (script.headD 0)).toUInt8 L m' news' D Dp Dq fd → Cx w p loose mean mg mb A₀ base outer h₀ L m' h (news' ++ news) →
    wpAny (model PySem.Challenge.pw_ij0047_01 w) (lawA dp un gd L outer) (execs ((bodyOf (topSt 39)).drop 8) (lawEnv L)) Q E { s with heap := h, toks := tk }) :
  wpAny (model PySem.Challenge.pw_ij0047_01 w) (lawA dp un gd L outer) (execs (bodyOf (topSt 39)) (lawEnv L)) Q E s := by
  have G := OO.good_numbers script
  have g3 := G.ge
  have g13 := G.le
  have hz : (OO.numbersOf script).length < 64 := by omega
  have rn : ∀ k : Nat, 0 < k → ∀ q ∈ news, q.1 ≠ L + k := fun k hk q hq => Nat.ne_of_lt (Nat.lt_of_lt_of_le (r q hq) (Nat.le_add_right L k))
  have cn : ∀ {i j : Nat}, i ≠ j → @Ne Nat (L + i) (L + j) := fun h e => h (Nat.add_left_cancel e)
  show wpAny _ _ (execs ((bodyOf (topSt 39)).drop 0) _) _ _ _
  refine exec_at (by decide) ?_
  refine alts_step (s := s) (news := (L + 2, o2) :: (L + 3, o3) :: (L + 4, o4) :: news) (C.sub (by tb_start)) (by omega) (by omega) hl hi hm d1 hsc (List.forall_mem_cons.2 ⟨cn (by decide), List.forall_mem_cons.2 ⟨cn (by decide), List.forall_mem_cons.2 ⟨cn (by decide), rn 1 (by decide)⟩⟩⟩) fun h1 k1 o1' tal t1 d1' C1 => ?_
  refine exec_from (by decide) t1 ?_
  refine numbers_step (s := ⟨h1, s.gens, s.drawn, k1, s.os⟩) (news := (L + 1, o1') :: (L + 3, o3) :: (L + 4, o4) :: news) (C1.sub (by tb_start)) (by omega) (by omega) hl hi hm d2 hsc (List.forall_mem_cons.2 ⟨cn (by decide), List.forall_mem_cons.2 ⟨cn (by decide), List.forall_mem_cons.2 ⟨cn (by decide), rn 2 (by decide)⟩⟩⟩) fun h2 k2 o2' D c ys _ d2' hys lt2 l2 C2 t2 => ?_
  have hyn : ys.size = (OO.numbersOf script).length := by have := hys.length; rw [List.length_map, Array.length_toList] at this; exact this
  refine exec_from (by decide) t2 ?_
  refine size_step (s := ⟨h2, s.gens, s.drawn, k2, s.os⟩) C2 (.tail _ (.head _)) (.head _) d2' hyn hz fun h3 k3 tn _ C3 t3 => ?_
  refine exec_from (by decide) t3 ?_
  refine plain_step (s := ⟨h3, s.gens, s.drawn, k3, s.os⟩) (news := (L + 2, o2') :: (D, listOf ys c) :: (L + 1, o1') :: (L + 4, o4) :: news) (C3.sub (by tb_start)) (by omega) (by omega) (.tail _ (.head _)) hys hz (.head _) d2' d3 (List.forall_mem_cons.2 ⟨cn (by decide), List.forall_mem_cons.2 ⟨?g1, List.forall_mem_cons.2 ⟨cn (by decide), List.forall_mem_cons.2 ⟨cn (by decide), rn 3 (by decide)⟩⟩⟩⟩) fun Dp h4 k4 ps o3' d3' hps _ lt4 l4 C4 t4 => ?_
  case g1 => have := lt2 (L + 3, o3) (.tail _ (.head _)); exact Nat.ne_of_gt this
  refine exec_from (by decide) t4 ?_
  refine stirred_step (s := ⟨h4, s.gens, s.drawn, k4, s.os⟩) (news := (L + 3, o3') :: (Dp, lstO ps) :: (L + 2, o2') :: (D, listOf ys c) :: (L + 1, o1') :: news) (C4.sub (by tb_start)) (by omega) (by omega) (.tail _ (.tail _ (.tail _ (.head _)))) hys hz (.tail _ (.tail _ (.head _))) d2' (.tail _ (.tail _ (.tail _ (.tail _ (.head _))))) d1' G.lt d4 (List.forall_mem_cons.2 ⟨cn (by decide), List.forall_mem_cons.2 ⟨?g2, List.forall_mem_cons.2 ⟨cn (by decide), List.forall_mem_cons.2 ⟨?g3, List.forall_mem_cons.2 ⟨cn (by decide), rn 4 (by decide)⟩⟩⟩⟩⟩) fun Dq h5 k5 qs o4' d4' hqs _ lt5 l5 C5 t5 => ?_
  case g2 => have := lt4 (L + 4, o4) (.tail _ (.tail _ (.tail _ (.head _)))); exact Nat.ne_of_gt this
  case g3 => have := lt2 (L + 4, o4) (.tail _ (.tail _ (.head _))); exact Nat.ne_of_gt this
  refine exec_from (by decide) t5 ?_
  refine apart_step (s := ⟨h5, s.gens, s.drawn, k5, s.os⟩) (n := (OO.numbersOf script).length) C5 rfl (by omega) (by omega) (.tail _ (.tail _ (.tail _ (.head _)))) (.tail _ (.head _)) hps hqs (List.length_map ..) (List.length_map ..) hz (OO.cnt_bound hz _) (OO.cnt_bound hz _) (.tail _ (.tail _ (.head _))) d3' (.head _) d4' fun h6 k6 ta C6 t6 => ?_
  have sb := OO.sumA_bound (n := (OO.numbersOf script).length) (OO.cnt_bound hz (fun a b => decide (b < a))) (OO.cnt_bound hz (fun a b => OO.ahead (OO.alt1 (script.headD 0)).toUInt8 (OO.alt2 (script.headD 0)).toUInt8 b a)) hz
  refine exec_from (by decide) t6 ?_
  refine cube_step (s := ⟨h6, s.gens, s.drawn, k6, s.os⟩) hz C6 fun h7 k7 tc C7 t7 => ?_
  have cp := OO.cube_pos (n := (OO.numbersOf script).length) (by omega)
  have cl := OO.cube_lt hz
  refine exec_from (by decide) t7 ?_
  refine due_step (s := ⟨h7, s.gens, s.drawn, k7, s.os⟩) C7 cp (by omega) sb.1 sb.2 fun h8 k8 td fd hR C8 t8 => ?_
  refine fin h8 k8 _ ((L + 4, o4') :: (Dq, lstO qs) :: (L + 3, o3') :: (Dp, lstO ps) :: (L + 2, o2') :: (D, listOf ys c) :: (L + 1, o1') :: []) D Dp Dq fd t8 ?_ ⟨⟨o1', o2', o3', o4', tal, ?_, d1', ?_, d2', ?_, d3', ?_, d4'⟩, ⟨ys, c, ?_, hys⟩, ⟨ps, ?_, hps⟩, ⟨qs, ?_, hqs⟩, ⟨tn, rfl⟩, ⟨ta, rfl⟩, ⟨tc, rfl⟩, ⟨td, rfl⟩, hR⟩ C8
  · have lD := lt2 (L + 1, o1') (.head _)
    have lP := lt4 (L + 1, o1') (.tail _ (.tail _ (.head _)))
    have lQ := lt5 (L + 1, o1') (.tail _ (.tail _ (.tail _ (.tail _ (.head _)))))
    have hL1 : ∀ k : Nat, 0 < k → @LT.lt Nat _ L (L + k) := fun k hk => Nat.lt_add_of_pos_right hk
    have u : ∀ b : Nat, @LT.lt Nat _ (L + 1) b → @LT.lt Nat _ L b := fun b h => Nat.lt_of_succ_lt h
    refine List.forall_mem_cons.2 ⟨hL1 4 (by decide), List.forall_mem_cons.2 ⟨u _ lQ, List.forall_mem_cons.2 ⟨hL1 3 (by decide), List.forall_mem_cons.2 ⟨u _ lP, List.forall_mem_cons.2 ⟨hL1 2 (by decide), List.forall_mem_cons.2 ⟨u _ lD, List.forall_mem_cons.2 ⟨hL1 1 (by decide), fun q hq => nomatch hq⟩⟩⟩⟩⟩⟩⟩
  all_goals k_mem
end

section
variable {w : World} {p : Program} {loose : List Str} {mean : ExcName → Option Value} {mg mb : Str → Option Value} {dp un : Nat} {gd : Option (List Code)} {outer : List Env} {A₀ : Around} {base h₀ : Heap} {L : Addr} {m m0 : Str → Option Value} {news rest : List (Addr × Obj)} {s : Shared} {E : Value → Shared → Prop} {Q : Flow → Shared → Prop}
noncomputable abbrev kP : Nat → Array UInt8 := fun a => #[OO.hi a, OO.lo a]
noncomputable abbrev k16 : Nat → Array UInt8 := fun a => BB.b16 (OO.hi a) (OO.lo a)
noncomputable abbrev k64 (a1 a2 : UInt8) : Nat → Array UInt8 := fun a => (BM.b64 (OO.hi a) (OO.lo a)).map (BM.tr a1 a2)
theorem law_rest {ns : List Nat} {v : Int} {a1 a2 : UInt8} {D Dp Dq : Nat} {fd : UInt64} (G : OO.Good 13 ns) (ea1 : a1 = (OO.alt1 v).toUInt8) (ea2 : a2 = (OO.alt2 v).toUInt8) (H : Half ns a1 a2 L m news D Dp Dq fd)
  (C : Cx w p loose mean mg mb A₀ base outer h₀ L m s.heap ((415, tabObj #[]) :: (330, tabObj #[]) :: news)) (lt : ∀ q ∈ news, @LT.lt Nat _ L q.1) (hL : @LT.lt Nat _ 415 L) (hD : Docs base) (hd : dp + 200 < recursionLimit) (hu : un + 600 < cLine) (hgb : AllBare s.gens) (htk : 0 < s.toks)
  (fin : ∀ (g h : Heap) (gs : Array GenState) (tk : Nat) (m' : Str → Option Value) (ps ps' : Array Value), KtsTurn (outer.filterMap (·.frame)) h₀ g → AllBare gs → Cx w p loose mean mg mb A₀ base outer g L m' h ((330, tabObj ps) :: (415, tabObj ps') :: []) → Q (.ret (.bool true)) { s with heap := h, gens := gs, toks := tk }) :
  wpAny (model PySem.Challenge.pw_ij0047_01 w) (lawA dp un gd L outer) (execs ((bodyOf (topSt 39)).drop 8) (lawEnv L)) Q E s := by
  have g3 := G.ge
  have g13 := G.le
  have hz : ns.length < 64 := by omega
  have h2 : 2 ≤ ns.length := by omega
  obtain ⟨⟨o1, o2, o3, o4, tal, m1, d1, m2, d2, m3, d3, m4, d4⟩, ⟨ys, c, mD, hys⟩, ⟨ps, mp, hps⟩, ⟨qs, mq, hqs⟩, ⟨tn, hsz⟩, ⟨ta, hap⟩, ⟨tc, hcu⟩, ⟨td, hdue⟩, hR⟩ := H
  -- the keys
  have iP : ∀ i j, i < ns.length → j < ns.length → kP (ns.getD i 0) = kP (ns.getD j 0) → i = j := OO.key_unlike G OO.pair_unlike
  have i16 : ∀ i j, i < ns.length → j < ns.length → k16 (ns.getD i 0) = k16 (ns.getD j 0) → i = j := OO.key_unlike G OO.b16_unlike
  have inj64 : ∀ u v, u < 64 → v < 64 → (OO.sg a1 a2 u).toNat = (OO.sg a1 a2 v).toNat → u = v := by subst ea1 ea2; exact OO.alt_inj v
  have i64 : ∀ i j, i < ns.length → j < ns.length → k64 a1 a2 (ns.getD i 0) = k64 a1 a2 (ns.getD j 0) → i = j := OO.key_unlike G (OO.long_unlike inj64)
  have cP : ∀ i, i < ns.length → rk ns.length (fun j => kP (ns.getD j 0)) i = ns.countP (fun b => decide (b < ns.getD i 0)) := fun i hi => OO.rk_count G (key := kP) (lt := fun a b => decide (a < b)) (fun a b ha hb => OO.pair_lt ha hb) hi
  have c16 : ∀ i, i < ns.length → rk ns.length (fun j => k16 (ns.getD j 0)) i = ns.countP (fun b => decide (b < ns.getD i 0)) := fun i hi => OO.rk_count G (key := k16) (lt := fun a b => decide (a < b)) (fun a b ha hb => OO.b16_lt ha hb) hi
  have c64 : ∀ i, i < ns.length → rk ns.length (fun j => k64 a1 a2 (ns.getD j 0)) i = ns.countP (fun b => OO.ahead a1 a2 b (ns.getD i 0)) := fun i hi => OO.rk_count G (key := k64 a1 a2) (lt := OO.ahead a1 a2) (fun a b ha hb => OO.long_lt inj64 ha hb) hi
  have B16 : Bij ns.length (rk ns.length fun j => k16 (ns.getD j 0)) := rk_bij i16 (by omega)
  have B64 : Bij ns.length (rk ns.length fun j => k64 a1 a2 (ns.getD j 0)) := rk_bij i64 (by omega)
  have e16 : ∀ i, i < ns.length → (ns.map fun a => ((ns.countP (fun b => decide (b < a)) : Nat) : Int)).getD i 0 = ((rk ns.length (fun j => k16 (ns.getD j 0)) i : Nat) : Int) := fun i hi => by rw [OO.map_getD, if_pos hi, c16 i hi]
  have e64 : ∀ i, i < ns.length → (ns.map fun a => ((ns.countP (fun b => OO.ahead a1 a2 b a) : Nat) : Int)).getD i 0 = ((rk ns.length (fun j => k64 a1 a2 (ns.getD j 0)) i : Nat) : Int) := fun i hi => by rw [OO.map_getD, if_pos hi, c64 i hi]
  have hS := OO.sumA_AA (ns := ns) e16 e64
  generalize hSe : OO.sumA (ns.map fun a => ((ns.countP (fun b => decide (b < a)) : Nat) : Int)) (ns.map fun a => ((ns.countP (fun b => OO.ahead a1 a2 b a) : Nat) : Int)) ns.length = S at *
  have sb : 0 ≤ S ∧ S < 2 ^ 20 := by rw [← hSe]; exact OO.sumA_bound (OO.cnt_bound hz _) (OO.cnt_bound hz _) hz
  have cp := OO.cube_pos (n := ns.length) (by omega)
  have cl := OO.cube_lt hz
  have sp := spear B16 B64
  have hKS : ((ns.length : Int) * ns.length * ns.length - ns.length) - S * 6 = 3 * DD ns.length (rk ns.length fun j => k16 (ns.getD j 0)) (rk ns.length fun j => k64 a1 a2 (ns.getD j 0)) := Ar.dd1 hS sp
  have tl : ∀ {q : Addr × Obj}, q ∈ news → q ∈ (415, tabObj #[]) :: (330, tabObj #[]) :: news := fun h => .tail _ (.tail _ h)
  refine exec_from (by decide) htk ?_
  refine pairs_step (s := s) C (by omega) (by omega) htk (tl mD) hys G.lt hz (tl m2) d2 fun D1 h8 k8 ps8 K1 _ lt1 C8 t8 => ?_
  obtain ⟨ks1, ek1, L1⟩ := K1.list
  refine exec_from (by decide) t8 ?_
  refine short_step (s := ⟨h8, s.gens, s.drawn, k8 + 1, s.os⟩) C8 (by omega) (by omega) t8 K1 (.head _) hz rfl fun D2 h9 k9 ps9 K2 _ lt2 C9 t9 => ?_
  obtain ⟨ks2, ek2, L2⟩ := K2.list
  refine exec_from (by decide) t9 ?_
  refine long_step (s := ⟨h9, s.gens, s.drawn, k9 + 1, s.os⟩) C9 hD (by omega) (by omega) t9 K1 (.tail _ (.head _)) hz rfl (.tail _ (.tail _ (tl m1))) d1 fun D3 h10 k10 ps10 K3 _ lt3 C10 t10 => ?_
  obtain ⟨ks3, ek3, L3⟩ := K3.list
  subst ek1 ek2 ek3
  refine exec_from (by decide) t10 ?_
  refine cor_if1 (s := ⟨h10, s.gens, s.drawn, k10 + 1, s.os⟩) C10 hD (by omega) (by omega) L1 L2 iP i16 h2 hz (.tail _ (.tail _ (.head _))) (.tail _ (.head _)) rfl rfl (fun f V => cmp_one V fun i hi => (cP i hi).trans (c16 i hi).symm) fun g11 h11 k11 KT11 C11 t11 => ?_
  refine exec_from (by decide) t11 ?_
  refine cor_if2 (s := ⟨h11, s.gens, s.drawn, k11, s.os⟩) C11 hD (by omega) (by omega) L2 L3 i16 i64 h2 hz (.tail _ (.head _)) (.head _) rfl rfl hdue (fun f V => cmp_due B16 B64 h2 hz rfl hS V.1 hR) fun g12 h12 k12 KT12 C12 t12 => ?_
  refine exec_from (by decide) t12 ?_
  refine cor_if3 (s := ⟨h12, s.gens, s.drawn, k12, s.os⟩) C12 hD (by omega) (by omega) L3 L2 i64 i16 h2 hz (.head _) (.tail _ (.head _)) rfl rfl hdue ?c3 fun g13 h13 k13 KT13 C13 t13 => ?_
  case c3 =>
    intro f V
    have V1 := V.1
    have z3 : DD ns.length (rk ns.length fun j => k64 a1 a2 (ns.getD j 0)) (rk ns.length fun j => k64 a1 a2 (ns.getD j 0)) = DD ns.length (rk ns.length fun j => k16 (ns.getD j 0)) (rk ns.length fun j => k16 (ns.getD j 0)) := Ar.three (DD_self B16) (DD_self B64)
    rw [DD_comm, z3] at V1
    exact cmp_due B16 B64 h2 hz rfl hS V1 hR
  refine exec_from (by decide) t13 ?_
  refine below_step (s := ⟨h13, s.gens, s.drawn, k13, s.os⟩) C13 hD (by omega) (by omega) L2 i16 h2 hz (.tail _ (.head _)) rfl fun g14 h14 k14 r1 c1 zs1 KT14 R1 lt14 C14 t14 => ?_
  refine exec_from (by decide) t14 ?_
  refine beside_step (s := ⟨h14, s.gens, s.drawn, k14, s.os⟩) C14 hD (by omega) (by omega) L3 i64 h2 hz (.tail _ (.head _)) rfl fun g15 h15 k15 r2 c2 zs2 KT15 R2 lt15 C15 t15 => ?_
  have up : ∀ {q : Addr × Obj}, q ∈ news → q ∈ (r2, listOf zs2 c2) :: (r1, listOf zs1 c1) :: (D3, lstO (ks3.map fun p => Value.bytes p.1 p.2)) :: (D2, lstO (ks2.map fun p => Value.bytes p.1 p.2)) :: (D1, lstO (ks1.map fun p => Value.bytes p.1 p.2)) :: (415, tabObj #[]) :: (330, tabObj #[]) :: news := fun h => .tail _ (.tail _ (.tail _ (.tail _ (.tail _ (tl h)))))
  refine exec_from (by decide) t15 ?_
  refine places_step (s := ⟨h15, s.gens, s.drawn, k15, s.os⟩) C15 (by omega) (by omega) R1 R2 (fun i hi => Nat.lt_trans (B16.lt i hi) hz) (fun i hi => Nat.lt_trans (B64.lt i hi) hz) hz (.tail _ (.head _)) (.head _) rfl rfl (up mp) (up mq) hps hqs (List.length_map ..) (List.length_map ..) (up m3) d3 (up m4) d4 e16 e64 fun h16 k16' C16 t16 => ?_
  have n330 : ∀ q ∈ news, q.1 ≠ 330 := fun q hq => Nat.ne_of_gt (Nat.lt_trans (Nat.lt_trans (by decide : 330 < 415) hL) (lt q hq))
  have n415 : ∀ q ∈ news, q.1 ≠ 415 := fun q hq => Nat.ne_of_gt (Nat.lt_trans hL (lt q hq))
  have x1 : 415 < D1 := lt1 (415, tabObj #[]) (.head _)
  have x2 : 415 < D2 := lt2 (415, tabObj #[]) (.tail _ (.head _))
  have x3 : 415 < D3 := lt3 (415, tabObj #[]) (.tail _ (.tail _ (.head _)))
  have x4 : 415 < r1 := lt14 (415, tabObj #[]) (.tail _ (.tail _ (.tail _ (.head _))))
  have x5 : 415 < r2 := lt15 (415, tabObj #[]) (.tail _ (.tail _ (.tail _ (.tail _ (.head _)))))
  have ne : ∀ {a : Nat} {b : Nat}, b < a → a ≠ b := fun h => Nat.ne_of_gt h
  refine exec_from (by decide) t16 ?_
  refine lin_if (s := ⟨h16, s.gens, s.drawn, k16', s.os⟩) (news := (330, tabObj #[]) :: (r2, listOf zs2 c2) :: (r1, listOf zs1 c1) :: news) (C16.sub (by tb_start)) hD (by omega) (by omega) ?n1 R1 R2 B16 B64 h2 hz (.tail _ (.tail _ (.head _))) (.tail _ (.head _)) rfl rfl hgb hdue (fun f V => cmp_due B16 B64 h2 hz rfl hS V hR) fun g17 h17 gs17 k17 ps17 KT17 hg17 C17 t17 => ?_
  case n1 => exact List.forall_mem_cons.2 ⟨show (330 : Nat) ≠ 415 by decide, List.forall_mem_cons.2 ⟨ne x5, List.forall_mem_cons.2 ⟨ne x4, n415⟩⟩⟩
  refine exec_from (by decide) t17 ?_
  refine cov_ret (s := ⟨h17, gs17, s.drawn, k17, s.os⟩) (news := (415, tabObj ps17) :: (r2, listOf zs2 c2) :: (r1, listOf zs1 c1) :: news) (C17.sub (by tb_start)) hD (by omega) (by omega) ?n2 R1 R2 B16 B64 h2 hz (.tail _ (.tail _ (.head _))) (.tail _ (.head _)) rfl rfl hg17 hcu hap hsz hKS (by omega) fun g18 h18 gs18 k18 ps18 KT18 hg18 C18 t18 => ?_
  case n2 => exact List.forall_mem_cons.2 ⟨show (415 : Nat) ≠ 330 by decide, List.forall_mem_cons.2 ⟨ne (Nat.lt_trans (by decide) x5), List.forall_mem_cons.2 ⟨ne (Nat.lt_trans (by decide) x4), n330⟩⟩⟩
  exact fin g18 h18 gs18 k18 _ ps18 ps17 (((((((KT11.trans KT12).trans KT13).trans KT14).trans KT15).trans KT17).trans KT18)) hg18 (C18.sub (List.forall_mem_cons.2 ⟨.head _, List.forall_mem_cons.2 ⟨.tail _ (.head _), fun q hq => nomatch hq⟩⟩))
end

section
variable {w : World}
/-- a text that binds nothing (its one row keeps the road by the audit shut) -/
noncomputable def pNone : Program := { PySem.Challenge.pw_ij0047_01 with main := { PySem.Challenge.pw_ij0047_01.main with body := [.Import [⟨Str.ofString "sys", none, ⟨0, 0, 0, 0⟩⟩] ⟨0, 0, 0, 0⟩] } }
noncomputable def wider (q : Program) (loose : List Str) : List Str := loose ++ (recsOf q).map (·.name) ++ (litsOf q).map (·.1) ++ (clssOf q loose).map (·.name)
noncomputable def hid (h : Heap) : Heap := hideAll h [330, 415]
theorem hid_get {h : Heap} {b : Addr} {o : Obj} (e : h.get? b = some o) (h1 : b ≠ 330) (h2 : b ≠ 415) : (hid h).get? b = some o :=
  hideAll_get _ e fun hm => by
    simp only [List.mem_cons, List.not_mem_nil, or_false] at hm
    exact hm.elim h1 h2
theorem hid_of {h : Heap} {b : Addr} {o : Obj} (e : (hid h).get? b = some o) : h.get? b = some o := of_hideAll _ e
theorem hid_at {h : Heap} {b : Addr} (h1 : b ≠ 330) (h2 : b ≠ 415) : ∀ o, h.get? b = some o → (hid h).get? b = some o := fun _ e => hid_get e h1 h2
theorem hid_ns {h : Heap} {b : Addr} {m : Str → Option Value} (n : h.Ns b m) (h1 : b ≠ 330) (h2 : b ≠ 415) : (hid h).Ns b m := n.at' (hid_at h1 h2)
theorem hid_K {P : Params} {h : Heap} (X : (KM P).In h) : (KM P).In (hid h) := fun a o e => by
  refine hid_get (X a o e) ?_ ?_
  · rintro rfl
    exact nomatch (show (none : Option Obj) = some o from e)
  · rintro rfl
    exact nomatch (show (none : Option Obj) = some o from e)
theorem hid_docs {h : Heap} (D : Docs h) : Docs (hid h) :=
  ⟨let ⟨v, t, e⟩ := D.rank; ⟨v, t, hid_get e (by decide) (by decide)⟩, let ⟨v, t, e⟩ := D.cov; ⟨v, t, hid_get e (by decide) (by decide)⟩, let ⟨v, t, e⟩ := D.cor; ⟨v, t, hid_get e (by decide) (by decide)⟩,
   let ⟨v, t, e⟩ := D.lin; ⟨v, t, hid_get e (by decide) (by decide)⟩, let ⟨v, t, e⟩ := D.b64; ⟨v, t, hid_get e (by decide) (by decide)⟩⟩
theorem hid_top {q : Program} {loose : List Str} {mean : ExcName → Option Value} {mg mb : Str → Option Value} {h : Heap} (T : Top q loose mean mg mb h) (t1 : h.get? 330 = some (tabObj #[])) (t2 : h.get? 415 = some (tabObj #[])) :
    Top pNone (wider q loose) mean mg mb (hid h) where
  g := hid_ns T.g (by decide) (by decide)
  b := hid_ns T.b (by decide) (by decide)
  nolimit := let ⟨mc, n, e⟩ := T.nolimit; ⟨mc, hid_ns n (by decide) (by decide), e⟩
  nodigits := let ⟨mc, n, e⟩ := T.nodigits; ⟨mc, hid_ns n (by decide) (by decide), e⟩
  fn := fun d hd => nomatch hd
  own := fun o ho => nomatch ho
  const := fun x d e => nomatch e
  free := fun x h1 h2 _ _ _ => by
    simp only [wider, List.mem_append, not_or] at h2
    exact T.free x h1 h2.1.1.1 h2.1.1.2 h2.1.2 h2.2
  builtins := T.builtins
  tab := fun d hd => nomatch hd
  bmain := let ⟨bm, ob, h1, h2, h3, h4, r⟩ := T.bmain; ⟨bm, ob, h1, h2, hid_get h3 (by rintro rfl; rw [t1] at h3; cases h3; cases h4) (by rintro rfl; rw [t2] at h3; cases h3; cases h4), h4, r⟩
  seer := fun hi => absurd hi (by decide)
set_option maxRecDepth 100000 in
set_option maxHeartbeats 2000000 in
theorem law_entry {q : Program} {loose : List Str} {mean : ExcName → Option Value} {mg mb : Str → Option Value} {s₁ : Shared} {a : Addr} {l : Nat} {vs : List Value} {script : List Int} {R : Result → Shared → Prop}
  (T : Top q loose mean mg mb s₁.heap) (X : (KM w.params).In s₁.heap) (D : Docs s₁.heap) (t1 : s₁.heap.TableAt 334 330 #[]) (t2 : s₁.heap.TableAt 417 415 #[]) (hg : AllBare s₁.gens) (hmg : mg (Str.ofString "law") = some (.ref a))
  (hl : s₁.heap.IsList l vs.toArray) (hi : IntsAre vs script) (hm : script.length < 64)
  (fin : ∀ (h : Heap) (gs : Array GenState) (tk : Nat), OldK s₁.heap h → AllBare gs → R (.ok (.ret (.bool true))) { s₁ with heap := h, gens := gs, toks := tk }) :
  codeAny (model PySem.Challenge.pw_ij0047_01 w) callerA (.call (.ref a) ⟨[.ref l], []⟩) R s₁ := by
  have ea : mg (Str.ofString "law") = some (.ref 497) := mg_of X T.g rfl
  rw [hmg] at ea
  cases ea
  have s415 : @LT.lt Nat _ 415 s₁.heap.objs.size := Heap.lt_size t2.2
  refine call_cellsN (name := Str.ofString "law") (params := parOf (topSt 39)) (body := bodyOf (topSt 39)) (scope := scOf (topSt 39)) (binds := [(Str.ofString "script", .ref l)]) (by decide) (X 497 _ rfl) rfl T.nolimit (codeRec_of X rfl) rfl (fun x hx => .inl (by rcases List.mem_singleton.1 hx with rfl; rfl)) (by decide +kernel) fun h₁ tk cells F N Y => ?_
  generalize hLe : s₁.heap.objs.size = L at *
  have Y' : CellsAre (bindC (envOfC (Str.ofString "law") (scOf (topSt 39)) L 497 (.ref 496)).kindOf [(Str.ofString "script", .ref l)] fun _ => none) [(Str.ofString "stirred", L + 4), (Str.ofString "plain", L + 3), (Str.ofString "numbers", L + 2), (Str.ofString "alts", L + 1)] cells := Y
  cases Y' with
  | cons d4 Y' =>
  cases Y' with
  | cons d3 Y' =>
  cases Y' with
  | cons d2 Y' =>
  cases Y' with
  | cons d1 Y' =>
  cases Y'
  rename_i o4 o3 o2 o1
  have TT := hid_top T t1.2 t2.2
  have XX := hid_K X
  have nn : ∀ b, s₁.heap.get? b = none → (hid s₁.heap).get? b = none := fun b e => by
    cases z : (hid s₁.heap).get? b with
    | none => rfl
    | some o => rw [hid_of z] at e; cases e
  have C : Cx w pNone (wider q loose) mean mg mb callerA (hid s₁.heap) [] (hid s₁.heap) L (bindL (envOfC (Str.ofString "law") (scOf (topSt 39)) L 497 (.ref 496)).kindOf [(Str.ofString "script", .ref l)] fun _ => none) h₁ ((L + 1, o1) :: (L + 2, o2) :: (L + 3, o3) :: (L + 4, o4) :: (415, tabObj #[]) :: (330, tabObj #[]) :: []) := by
    refine ⟨⟨rfl, fun _ _ e => e, trivial⟩, ⟨F.ns, fun b o e => F.keep b o (hid_of e), by rw [← hLe]; exact Nat.le_of_eq (hideAll_size _ _)⟩, XX, ?_, TT, XX, TT⟩
    have cellN : ∀ q ∈ [(L + 4, o4), (L + 3, o3), (L + 2, o2), (L + 1, o1)], h₁.get? q.1 = some q.2 ∧ q.1 ≠ L ∧ (hid s₁.heap).get? q.1 = none := fun q hq => ⟨(N q hq).1, (N q hq).2.1, nn _ (N q hq).2.2⟩
    refine List.forall_mem_cons.2 ⟨cellN _ (.tail _ (.tail _ (.tail _ (.head _)))), List.forall_mem_cons.2 ⟨cellN _ (.tail _ (.tail _ (.head _))), List.forall_mem_cons.2 ⟨cellN _ (.tail _ (.head _)), List.forall_mem_cons.2 ⟨cellN _ (.head _), List.forall_mem_cons.2 ⟨⟨F.keep _ _ t2.2, Nat.ne_of_lt s415, hideAll_none _ (.tail _ (.head _))⟩, List.forall_mem_cons.2 ⟨⟨F.keep _ _ t1.2, Nat.ne_of_lt (Nat.lt_trans (by decide) s415), hideAll_none _ (.head _)⟩, fun q hq => nomatch hq⟩⟩⟩⟩⟩⟩
  have hDD := hid_docs D
  have hl2 : (hid s₁.heap).IsList l vs.toArray := hl.at (hid_at ?z1 ?z2)
  case z1 => rintro rfl; obtain ⟨o, e, hc, _⟩ := hl; rw [t1.2] at e; cases e; cases hc
  case z2 => rintro rfl; obtain ⟨o, e, hc, _⟩ := hl; rw [t2.2] at e; cases e; cases hc
  show wpAny _ (lawA (1 + claimMargin + 1) 7 (some []) L []) (execs (bodyOf (topSt 39)) (lawEnv L)) _ _ _
  refine law_half (s := { s₁ with heap := h₁, toks := tk }) C (by decide) (by decide) hl2 hi hm d1 d2 d3 d4 rfl (List.forall_mem_cons.2 ⟨s415, List.forall_mem_cons.2 ⟨Nat.lt_trans (by decide) s415, fun q hq => nomatch hq⟩⟩) ?_
  intro h2 tk2 m2 news2 D0 Dp Dq fd t2k lt2 H C2
  refine law_rest (s := { s₁ with heap := h2, toks := tk2 }) (OO.good_numbers script) rfl rfl H (C2.sub ?su) lt2 s415 hDD (by decide) (by decide) hg t2k ?_
  case su =>
    refine List.forall_mem_cons.2 ⟨List.mem_append_right _ (.head _), List.forall_mem_cons.2 ⟨List.mem_append_right _ (.tail _ (.head _)), fun q hq => List.mem_append_left _ hq⟩⟩
  intro g h3 gs tk3 m3 ps ps' KT hgs C3
  refine fin h3 gs tk3 ?_ hgs
  have n1 := (C3.N _ (.head _)).1
  have n2 := (C3.N _ (.tail _ (.head _))).1
  have kp : ∀ b o, s₁.heap.get? b = some o → b ≠ 330 → b ≠ 415 → h3.get? b = some o := fun b o e h1 h2 => C3.F.keep b o (KT.other b o (hid_get e h1 h2) (by simp))
  refine ⟨fun b o e => ?_, fun b o e => ?_⟩
  · by_cases e1 : b = 330
    · subst e1
      rw [t1.2] at e; cases e
      exact .inr (.inl ⟨t1.isCodeTable, rfl, #[], ps, rfl, by rw [n1]; simp⟩)
    · by_cases e2 : b = 415
      · subst e2
        rw [t2.2] at e; cases e
        exact .inr (.inl ⟨t2.isCodeTable, rfl, #[], ps', rfl, by rw [n2]; simp⟩)
      · exact .inl (kp b o e e1 e2)
  · by_cases e1 : b = 330
    · exact ⟨_, e1 ▸ n1⟩
    · by_cases e2 : b = 415
      · exact ⟨_, e2 ▸ n2⟩
      · exact ⟨o, kp b o e e1 e2⟩
end

section
theorem said2 {w : World} {h : Heap} (y : hook2.says w h) : (KM w.params).In h ∧ Docs h ∧ h.TableAt 334 330 #[] ∧ h.TableAt 417 415 #[] := by
  obtain ⟨s, e, e2, k⟩ := y
  obtain ⟨X, D⟩ := said (w := w) (h := h) ⟨s, e, k⟩
  simp only [List.cons.injEq, and_true] at e2
  exact ⟨X, D, (code334 (ps := #[]) X (fun _ _ e => e) trivial (k _ _ e2.1)).2, (code417 (ps := #[]) X (fun _ _ e => e) trivial (k _ _ e2.2)).2⟩
set_option maxRecDepth 100000 in
set_option maxHeartbeats 2000000 in
theorem law_walk {q : Program} {loose : List Str} {XP : (Str → Option Value) → Heap → Prop} {d : DefRec} {kwd : List (Str × Expr)} (hn : d.name = Str.ofString "law") :
    WalkO q loose XP hook2.says PySem.Challenge.rw_ij0047_01.row.toRowW d kwd (fun f vs => PySem.call f vs) := by
  intro w s₀ s₁ mg mb G Y fa o pm cd doc dV kV ho hd hcd hD hmg hg args vals as hpre hlay hrd hwl hlo
  obtain ⟨X, D, t1, t2⟩ := said2 Y
  have T := G.T
  rw [hn] at hmg
  clear ho hd hcd hD
  wrow_args hpre hlay hrd hwl hlo
  rename IntsAre _ _ => hI
  rename Heap.IsList _ _ _ => hL
  refine enter_call ?_
  refine law_entry T X D t1 t2 (AllBare.of_eq hg) hmg hL hI (by omega) fun h gs tk hO hB => ?_
  refine ⟨.inl ⟨.bool true, _, _, rfl, ?r1, ReadsW.bool _, ?r2, ?r3⟩, hO, rfl, hB⟩
  case r1 => exact raisesW_false (by wrow_none_raised)
  case r2 => exact postW_of (by wrow_shape) (by wtm_val) (by str_meet; first | done | w_fin)
  case r3 => exact fun _ => ⟨List.nodup_nil, fun _ h => nomatch h⟩
end

theorem law_holds : PySem.Challenge.rw_ij0047_01.Holds := law_from (law_walk rfl)

end Mine
theorem PySem.Challenge.cw_ij0047_01_holds : PySem.Challenge.rw_ij0047_01.Holds :=
  Mine.law_holds
