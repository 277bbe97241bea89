import PyProof.Rows.All
import Wide.All
import OpenK.AllK
import Wide.FinOn
import PyProof.FactsAll.list_1
import PyProof.IsiH_list
import PyProof.FactsAll.str_8
import Lean
import PySem.Challenge.RW_rx0110_01
open PySem PySem.W PyProof.Rows
set_option Elab.async false
set_option maxRecDepth 100000
set_option maxHeartbeats 8000000
set_option linter.all false
set_option linter.unusedSimpArgs false
set_option genSizeOf false
set_option genInjectivity false
namespace Mine

/-! the head: which statements are looked at, and the written part of the state -/
abbrev bd : List PySem.Stmt := PySem.Challenge.pw_rx0110_01.main.body
def defOf9 : PySem.Stmt → Option (PySem.Arguments × List PySem.Stmt × PySem.Scope)
  | .FunctionDef _ a b _ _ _ c _ _ _ => some (a, b, c)
  | _ => none
def defAt (l : List PySem.Stmt) (i : Nat) : Option (PySem.Arguments × List PySem.Stmt × PySem.Scope) := l[i]?.bind defOf9
def metAt (l : List PySem.Stmt) (i j : Nat) : Option (PySem.Arguments × List PySem.Stmt × PySem.Scope) := match l[i]? with
  | some (.ClassDef _ _ _ b _ _ _ _ _ _ _) => defAt b j
  | _ => none
noncomputable def hd.view_39 : PySem.Program := by
  refine (?f : ∀ (s0 : PySem.Stmt) (_ : bd[0]? = some s0), ∀ (s1 : PySem.Stmt) (_ : bd[1]? = some s1), ∀ (s3 : PySem.Stmt) (_ : bd[3]? = some s3), ∀ (s5 : PySem.Stmt) (_ : bd[5]? = some s5), ∀ (s7 : PySem.Stmt) (_ : bd[7]? = some s7), ∀ (s8 : PySem.Stmt) (_ : bd[8]? = some s8), ∀ (s10 : PySem.Stmt) (_ : bd[10]? = some s10), ∀ (s12 : PySem.Stmt) (_ : bd[12]? = some s12), ∀ (s14 : PySem.Stmt) (_ : bd[14]? = some s14), ∀ (s15 : PySem.Stmt) (_ : bd[15]? = some s15), ∀ (s16 : PySem.Stmt) (_ : bd[16]? = some s16), ∀ (s17 : PySem.Stmt) (_ : bd[17]? = some s17), ∀ (s18 : PySem.Stmt) (_ : bd[18]? = some s18), ∀ (s19 : PySem.Stmt) (_ : bd[19]? = some s19), ∀ (s21 : PySem.Stmt) (_ : bd[21]? = some s21), ∀ (s22 : PySem.Stmt) (_ : bd[22]? = some s22), ∀ (s24 : PySem.Stmt) (_ : bd[24]? = some s24), ∀ (s26 : PySem.Stmt) (_ : bd[26]? = some s26), ∀ (s27 : PySem.Stmt) (_ : bd[27]? = some s27), ∀ (s28 : PySem.Stmt) (_ : bd[28]? = some s28), ∀ (s29 : PySem.Stmt) (_ : bd[29]? = some s29), ∀ (s30 : PySem.Stmt) (_ : bd[30]? = some s30), ∀ (s31 : PySem.Stmt) (_ : bd[31]? = some s31), ∀ (s32 : PySem.Stmt) (_ : bd[32]? = some s32), PySem.Program) ?s0 ?h0 ?s1 ?h1 ?s3 ?h3 ?s5 ?h5 ?s7 ?h7 ?s8 ?h8 ?s10 ?h10 ?s12 ?h12 ?s14 ?h14 ?s15 ?h15 ?s16 ?h16 ?s17 ?h17 ?s18 ?h18 ?s19 ?h19 ?s21 ?h21 ?s22 ?h22 ?s24 ?h24 ?s26 ?h26 ?s27 ?h27 ?s28 ?h28 ?s29 ?h29 ?s30 ?h30 ?s31 ?h31 ?s32 ?h32
  case h0 => exact rfl
  case h1 => exact rfl
  case h3 => exact rfl
  case h5 => exact rfl
  case h7 => exact rfl
  case h8 => exact rfl
  case h10 => exact rfl
  case h12 => exact rfl
  case h14 => exact rfl
  case h15 => exact rfl
  case h16 => exact rfl
  case h17 => exact rfl
  case h18 => exact rfl
  case h19 => exact rfl
  case h21 => exact rfl
  case h22 => exact rfl
  case h24 => exact rfl
  case h26 => exact rfl
  case h27 => exact rfl
  case h28 => exact rfl
  case h29 => exact rfl
  case h30 => exact rfl
  case h31 => exact rfl
  case h32 => exact rfl
  case f => exact fun s0 _ s1 _ s3 _ s5 _ s7 _ s8 _ s10 _ s12 _ s14 _ s15 _ s16 _ s17 _ s18 _ s19 _ s21 _ s22 _ s24 _ s26 _ s27 _ s28 _ s29 _ s30 _ s31 _ s32 _ => { PySem.Challenge.pw_rx0110_01 with main := { PySem.Challenge.pw_rx0110_01.main with body := [s0, s1, s3, s5, s7, s8, s10, s12, s14, s15, s16, s17, s18, s19, s21, s22, s24, s26, s27, s28, s29, s30, s31, s32] } }
noncomputable def hd.heap_39 : PySem.Params → PySem.W.Frag := by
  refine (?f : ∀ (a38 : PySem.Arguments) (b38 : List PySem.Stmt) (c38 : PySem.Scope) (_ : defAt bd 1 = some (a38, b38, c38)), ∀ (a45 : PySem.Arguments) (b45 : List PySem.Stmt) (c45 : PySem.Scope) (_ : defAt bd 3 = some (a45, b45, c45)), ∀ (a59 : PySem.Arguments) (b59 : List PySem.Stmt) (c59 : PySem.Scope) (_ : metAt bd 5 0 = some (a59, b59, c59)), ∀ (a78 : PySem.Arguments) (b78 : List PySem.Stmt) (c78 : PySem.Scope) (_ : metAt bd 7 0 = some (a78, b78, c78)), ∀ (a85 : PySem.Arguments) (b85 : List PySem.Stmt) (c85 : PySem.Scope) (_ : metAt bd 7 1 = some (a85, b85, c85)), ∀ (a92 : PySem.Arguments) (b92 : List PySem.Stmt) (c92 : PySem.Scope) (_ : metAt bd 7 2 = some (a92, b92, c92)), ∀ (a104 : PySem.Arguments) (b104 : List PySem.Stmt) (c104 : PySem.Scope) (_ : defAt bd 8 = some (a104, b104, c104)), ∀ (a111 : PySem.Arguments) (b111 : List PySem.Stmt) (c111 : PySem.Scope) (_ : defAt bd 10 = some (a111, b111, c111)), ∀ (a118 : PySem.Arguments) (b118 : List PySem.Stmt) (c118 : PySem.Scope) (_ : defAt bd 12 = some (a118, b118, c118)), ∀ (a125 : PySem.Arguments) (b125 : List PySem.Stmt) (c125 : PySem.Scope) (_ : defAt bd 14 = some (a125, b125, c125)), ∀ (a132 : PySem.Arguments) (b132 : List PySem.Stmt) (c132 : PySem.Scope) (_ : defAt bd 15 = some (a132, b132, c132)), ∀ (a139 : PySem.Arguments) (b139 : List PySem.Stmt) (c139 : PySem.Scope) (_ : defAt bd 16 = some (a139, b139, c139)), ∀ (a146 : PySem.Arguments) (b146 : List PySem.Stmt) (c146 : PySem.Scope) (_ : defAt bd 17 = some (a146, b146, c146)), ∀ (a153 : PySem.Arguments) (b153 : List PySem.Stmt) (c153 : PySem.Scope) (_ : defAt bd 18 = some (a153, b153, c153)), ∀ (a170 : PySem.Arguments) (b170 : List PySem.Stmt) (c170 : PySem.Scope) (_ : defAt bd 22 = some (a170, b170, c170)), ∀ (a177 : PySem.Arguments) (b177 : List PySem.Stmt) (c177 : PySem.Scope) (_ : defAt bd 24 = some (a177, b177, c177)), ∀ (a184 : PySem.Arguments) (b184 : List PySem.Stmt) (c184 : PySem.Scope) (_ : defAt bd 26 = some (a184, b184, c184)), ∀ (a189 : PySem.Arguments) (b189 : List PySem.Stmt) (c189 : PySem.Scope) (_ : defAt bd 27 = some (a189, b189, c189)), ∀ (a194 : PySem.Arguments) (b194 : List PySem.Stmt) (c194 : PySem.Scope) (_ : defAt bd 28 = some (a194, b194, c194)), ∀ (a201 : PySem.Arguments) (b201 : List PySem.Stmt) (c201 : PySem.Scope) (_ : defAt bd 29 = some (a201, b201, c201)), ∀ (a206 : PySem.Arguments) (b206 : List PySem.Stmt) (c206 : PySem.Scope) (_ : defAt bd 30 = some (a206, b206, c206)), ∀ (a213 : PySem.Arguments) (b213 : List PySem.Stmt) (c213 : PySem.Scope) (_ : defAt bd 31 = some (a213, b213, c213)), ∀ (a218 : PySem.Arguments) (b218 : List PySem.Stmt) (c218 : PySem.Scope) (_ : defAt bd 32 = some (a218, b218, c218)), PySem.Params → PySem.W.Frag) ?a38 ?b38 ?c38 ?h38 ?a45 ?b45 ?c45 ?h45 ?a59 ?b59 ?c59 ?h59 ?a78 ?b78 ?c78 ?h78 ?a85 ?b85 ?c85 ?h85 ?a92 ?b92 ?c92 ?h92 ?a104 ?b104 ?c104 ?h104 ?a111 ?b111 ?c111 ?h111 ?a118 ?b118 ?c118 ?h118 ?a125 ?b125 ?c125 ?h125 ?a132 ?b132 ?c132 ?h132 ?a139 ?b139 ?c139 ?h139 ?a146 ?b146 ?c146 ?h146 ?a153 ?b153 ?c153 ?h153 ?a170 ?b170 ?c170 ?h170 ?a177 ?b177 ?c177 ?h177 ?a184 ?b184 ?c184 ?h184 ?a189 ?b189 ?c189 ?h189 ?a194 ?b194 ?c194 ?h194 ?a201 ?b201 ?c201 ?h201 ?a206 ?b206 ?c206 ?h206 ?a213 ?b213 ?c213 ?h213 ?a218 ?b218 ?c218 ?h218
  case h38 => exact rfl
  case h45 => exact rfl
  case h59 => exact rfl
  case h78 => exact rfl
  case h85 => exact rfl
  case h92 => exact rfl
  case h104 => exact rfl
  case h111 => exact rfl
  case h118 => exact rfl
  case h125 => exact rfl
  case h132 => exact rfl
  case h139 => exact rfl
  case h146 => exact rfl
  case h153 => exact rfl
  case h170 => exact rfl
  case h177 => exact rfl
  case h184 => exact rfl
  case h189 => exact rfl
  case h194 => exact rfl
  case h201 => exact rfl
  case h206 => exact rfl
  case h213 => exact rfl
  case h218 => exact rfl
  case f => exact fun a38 b38 c38 _ a45 b45 c45 _ a59 b59 c59 _ a78 b78 c78 _ a85 b85 c85 _ a92 b92 c92 _ a104 b104 c104 _ a111 b111 c111 _ a118 b118 c118 _ a125 b125 c125 _ a132 b132 c132 _ a139 b139 c139 _ a146 b146 c146 _ a153 b153 c153 _ a170 b170 c170 _ a177 b177 c177 _ a184 b184 c184 _ a189 b189 c189 _ a194 b194 c194 _ a201 b201 c201 _ a206 b206 c206 _ a213 b213 c213 _ a218 b218 c218 _ => fun P =>
(nat_lit 2, ({ cls := PySem.Value.none, data := PySem.Data.dict #[{ hash := PySem.PyData.keyHash P (PySem.Str.ofString "\x69mport.loaded._sre"), key := PySem.Value.str (PySem.Str.ofString "\x69mport.loaded._sre") 183, val := PySem.Value.bool Bool.true }, { hash := PySem.PyData.keyHash P (PySem.Str.ofString "class._frozen_importlib.BuiltinImporter"), key := PySem.Value.str (PySem.Str.ofString "class._frozen_importlib.BuiltinImporter") 185, val := PySem.Value.ref 14 }, { hash := PySem.PyData.keyHash P (PySem.Str.ofString "watched.\x69mport"), key := PySem.Value.str (PySem.Str.ofString "watched.\x69mport") 206, val := PySem.Value.ref 18 }, { hash := PySem.PyData.keyHash P (PySem.Str.ofString "class._frozen_importlib.ModuleSpec"), key := PySem.Value.str (PySem.Str.ofString "class._frozen_importlib.ModuleSpec") 216, val := PySem.Value.ref 22 }, { hash := PySem.PyData.keyHash P (PySem.Str.ofString "sys.modules.booked-epoch"), key := PySem.Value.str (PySem.Str.ofString "sys.modules.booked-epoch") 245, val := PySem.Value.int 3 0 }, { hash := PySem.PyData.keyHash P (PySem.Str.ofString "\x69mport.later-laid._sre"), key := PySem.Value.str (PySem.Str.ofString "\x69mport.later-laid._sre") 270, val := PySem.Value.bool Bool.true }, { hash := PySem.PyData.keyHash P (PySem.Str.ofString "watched.library"), key := PySem.Value.str (PySem.Str.ofString "watched.library") 272, val := PySem.Value.ref 27 }, { hash := PySem.PyData.keyHash P (PySem.Str.ofString "watched.library-objects"), key := PySem.Value.str (PySem.Str.ofString "watched.library-objects") 0, val := PySem.Value.str (PySem.Str.ofString "\x0c") 0 }, { hash := PySem.PyData.keyHash P (PySem.Str.ofString "watched.library-deep._sre"), key := PySem.Value.str (PySem.Str.ofString "watched.library-deep._sre") 273, val := PySem.Value.str (PySem.Str.ofString "\x04\x00\x00\x0b\x04\x00\x00\x0b\x04\x00\x00\x03\x04\x00\x00\x0b\x08\x04dict\x02") 0 }] 9 } : PySem.Obj)) ::
(nat_lit 3, ({ cls := PySem.Value.type "dict", data := PySem.Data.dict #[{ hash := PySem.PyData.keyHash P (PySem.Str.ofString "__name__"), key := PySem.Value.str (PySem.Str.ofString "__name__") 165, val := PySem.Value.str (PySem.Str.ofString "law_rx0110_01") 670 }, { hash := PySem.PyData.keyHash P (PySem.Str.ofString "__doc__"), key := PySem.Value.str (PySem.Str.ofString "__doc__") 166, val := PySem.Value.none }, { hash := PySem.PyData.keyHash P (PySem.Str.ofString "__package__"), key := PySem.Value.str (PySem.Str.ofString "__package__") 167, val := PySem.Value.none }, { hash := PySem.PyData.keyHash P (PySem.Str.ofString "__loader__"), key := PySem.Value.str (PySem.Str.ofString "__loader__") 168, val := PySem.Value.builtin "__main__.__loader__#opaque" }, { hash := PySem.PyData.keyHash P (PySem.Str.ofString "__spec__"), key := PySem.Value.str (PySem.Str.ofString "__spec__") 169, val := PySem.Value.none }, { hash := PySem.PyData.keyHash P (PySem.Str.ofString "__annotations__"), key := PySem.Value.str (PySem.Str.ofString "__annotations__") 170, val := PySem.Value.ref 6 }, { hash := PySem.PyData.keyHash P (PySem.Str.ofString "__builtins__"), key := PySem.Value.str (PySem.Str.ofString "__builtins__") 171, val := PySem.Value.ref 4 }, { hash := PySem.PyData.keyHash P (PySem.Str.ofString "__file__"), key := PySem.Value.str (PySem.Str.ofString "__file__") 173, val := PySem.Value.str (PySem.Str.ofString "/claim/cut.py") 172 }, { hash := PySem.PyData.keyHash P (PySem.Str.ofString "__cached__"), key := PySem.Value.str (PySem.Str.ofString "__cached__") 174, val := PySem.Value.none }, { hash := PySem.PyData.keyHash P (PySem.Str.ofString "_sre"), key := PySem.Value.str (PySem.Str.ofString "_sre") 275, val := PySem.Value.ref 12 }, { hash := PySem.PyData.keyHash P (PySem.Str.ofString "_wall"), key := PySem.Value.str (PySem.Str.ofString "_wall") 288, val := PySem.Value.ref 38 }, { hash := PySem.PyData.keyHash P (PySem.Str.ofString "_plain_name"), key := PySem.Value.str (PySem.Str.ofString "_plain_name") 299, val := PySem.Value.ref 45 }, { hash := PySem.PyData.keyHash P (PySem.Str.ofString "ABCMeta"), key := PySem.Value.str (PySem.Str.ofString "ABCMeta") 325, val := PySem.Value.ref 62 }, { hash := PySem.PyData.keyHash P (PySem.Str.ofString "_ABCLike"), key := PySem.Value.str (PySem.Str.ofString "_ABCLike") 368, val := PySem.Value.ref 95 }, { hash := PySem.PyData.keyHash P (PySem.Str.ofString "_abc_plain_meta"), key := PySem.Value.str (PySem.Str.ofString "_abc_plain_meta") 375, val := PySem.Value.ref 104 }, { hash := PySem.PyData.keyHash P (PySem.Str.ofString "fspath"), key := PySem.Value.str (PySem.Str.ofString "fspath") 387, val := PySem.Value.ref 111 }, { hash := PySem.PyData.keyHash P (PySem.Str.ofString "_check_arg_types"), key := PySem.Value.str (PySem.Str.ofString "_check_arg_types") 400, val := PySem.Value.ref 118 }, { hash := PySem.PyData.keyHash P (PySem.Str.ofString "_get_sep"), key := PySem.Value.str (PySem.Str.ofString "_get_sep") 409, val := PySem.Value.ref 125 }, { hash := PySem.PyData.keyHash P (PySem.Str.ofString "join"), key := PySem.Value.str (PySem.Str.ofString "join") 420, val := PySem.Value.ref 132 }, { hash := PySem.PyData.keyHash P (PySem.Str.ofString "split"), key := PySem.Value.str (PySem.Str.ofString "split") 431, val := PySem.Value.ref 139 }, { hash := PySem.PyData.keyHash P (PySem.Str.ofString "splitroot"), key := PySem.Value.str (PySem.Str.ofString "splitroot") 440, val := PySem.Value.ref 146 }, { hash := PySem.PyData.keyHash P (PySem.Str.ofString "normpath"), key := PySem.Value.str (PySem.Str.ofString "normpath") 455, val := PySem.Value.ref 153 }, { hash := PySem.PyData.keyHash P (PySem.Str.ofString "_twin_re_1"), key := PySem.Value.str (PySem.Str.ofString "_twin_re_1") 493, val := PySem.Value.ref 158 }, { hash := PySem.PyData.keyHash P (PySem.Str.ofString "_special_chars_map"), key := PySem.Value.str (PySem.Str.ofString "_special_chars_map") 641, val := PySem.Value.ref 160 }, { hash := PySem.PyData.keyHash P (PySem.Str.ofString "escape"), key := PySem.Value.str (PySem.Str.ofString "escape") 648, val := PySem.Value.ref 170 }, { hash := PySem.PyData.keyHash P (PySem.Str.ofString "_translate"), key := PySem.Value.str (PySem.Str.ofString "_translate") 669, val := PySem.Value.ref 177 }, { hash := PySem.PyData.keyHash P (PySem.Str.ofString "_law_meant"), key := PySem.Value.str (PySem.Str.ofString "_law_meant") 679, val := PySem.Value.ref 184 }, { hash := PySem.PyData.keyHash P (PySem.Str.ofString "_law_takes"), key := PySem.Value.str (PySem.Str.ofString "_law_takes") 685, val := PySem.Value.ref 189 }, { hash := PySem.PyData.keyHash P (PySem.Str.ofString "_law_taken"), key := PySem.Value.str (PySem.Str.ofString "_law_taken") 691, val := PySem.Value.ref 194 }, { hash := PySem.PyData.keyHash P (PySem.Str.ofString "_law_straight"), key := PySem.Value.str (PySem.Str.ofString "_law_straight") 701, val := PySem.Value.ref 201 }, { hash := PySem.PyData.keyHash P (PySem.Str.ofString "_law_joined"), key := PySem.Value.str (PySem.Str.ofString "_law_joined") 707, val := PySem.Value.ref 206 }, { hash := PySem.PyData.keyHash P (PySem.Str.ofString "_law_tails"), key := PySem.Value.str (PySem.Str.ofString "_law_tails") 716, val := PySem.Value.ref 213 }, { hash := PySem.PyData.keyHash P (PySem.Str.ofString "law"), key := PySem.Value.str (PySem.Str.ofString "law") 722, val := PySem.Value.ref 218 }] 33 } : PySem.Obj)) ::
(nat_lit 32, ({ cls := PySem.Value.type "tuple", data := PySem.Data.seq #[] } : PySem.Obj)) ::
(nat_lit 34, ({ cls := PySem.Value.type "tuple", data := PySem.Data.seq #[PySem.Value.str (PySem.Str.ofString "k") 285] } : PySem.Obj)) ::
(nat_lit 35, ({ cls := PySem.Value.type "tuple", data := PySem.Data.seq #[] } : PySem.Obj)) ::
(nat_lit 37, ({ cls := PySem.Value.type "code", data := PySem.Data.fields #[PySem.Value.str (PySem.Str.ofString "_wall") 282, PySem.Value.str (PySem.Str.ofString "_wall") 283, PySem.Value.str (PySem.Str.ofString "/claim/cut.py") 284, PySem.Value.int 2 0, PySem.Value.int 1 0, PySem.Value.int 0 0, PySem.Value.int 0 0, PySem.Value.int 3 0, PySem.Value.ref 32, PySem.Value.bool Bool.true, PySem.Value.int 276 0, PySem.Value.ref 33, PySem.Value.none, PySem.Value.ref 34, PySem.Value.ref 35, PySem.Value.ref 36, PySem.Value.int 286 0, PySem.Value.int 2 0, PySem.Value.str (PySem.Str.ofString "/claim/cut.py") 287] } : PySem.Obj)) ::
(nat_lit 38, ({ cls := PySem.Value.type "function", data := PySem.Data.func { name := PySem.Str.ofString "_wall", qualname := PySem.Str.ofString "_wall", params := a38, body := PySem.FuncBody.stmts b38, scope := c38, globals := 3, closure := [], defaults := PySem.Value.none, kwdefaults := PySem.Value.none, pyModule := PySem.Value.str (PySem.Str.ofString "__main__") 164, code := PySem.Value.ref 37 } } : PySem.Obj)) ::
(nat_lit 39, ({ cls := PySem.Value.type "tuple", data := PySem.Data.seq #[] } : PySem.Obj)) ::
(nat_lit 41, ({ cls := PySem.Value.type "tuple", data := PySem.Data.seq #[PySem.Value.str (PySem.Str.ofString "x") 294, PySem.Value.str (PySem.Str.ofString "what") 295, PySem.Value.str (PySem.Str.ofString "kind") 296] } : PySem.Obj)) ::
(nat_lit 42, ({ cls := PySem.Value.type "tuple", data := PySem.Data.seq #[] } : PySem.Obj)) ::
(nat_lit 44, ({ cls := PySem.Value.type "code", data := PySem.Data.fields #[PySem.Value.str (PySem.Str.ofString "_plain_name") 291, PySem.Value.str (PySem.Str.ofString "_plain_name") 292, PySem.Value.str (PySem.Str.ofString "/claim/cut.py") 293, PySem.Value.int 6 0, PySem.Value.int 2 0, PySem.Value.int 0 0, PySem.Value.int 0 0, PySem.Value.int 3 0, PySem.Value.ref 39, PySem.Value.bool Bool.true, PySem.Value.int 276 0, PySem.Value.ref 40, PySem.Value.none, PySem.Value.ref 41, PySem.Value.ref 42, PySem.Value.ref 43, PySem.Value.int 297 0, PySem.Value.int 6 0, PySem.Value.str (PySem.Str.ofString "/claim/cut.py") 298] } : PySem.Obj)) ::
(nat_lit 45, ({ cls := PySem.Value.type "function", data := PySem.Data.func { name := PySem.Str.ofString "_plain_name", qualname := PySem.Str.ofString "_plain_name", params := a45, body := PySem.FuncBody.stmts b45, scope := c45, globals := 3, closure := [], defaults := PySem.Value.none, kwdefaults := PySem.Value.none, pyModule := PySem.Value.str (PySem.Str.ofString "os") 289, code := PySem.Value.ref 44 } } : PySem.Obj)) ::
(nat_lit 46, ({ cls := PySem.Value.type "tuple", data := PySem.Data.seq #[PySem.Value.type "type"] } : PySem.Obj)) ::
(nat_lit 53, ({ cls := PySem.Value.type "tuple", data := PySem.Data.seq #[] } : PySem.Obj)) ::
(nat_lit 55, ({ cls := PySem.Value.type "tuple", data := PySem.Data.seq #[PySem.Value.str (PySem.Str.ofString "cls") 317, PySem.Value.str (PySem.Str.ofString "subclass") 318] } : PySem.Obj)) ::
(nat_lit 56, ({ cls := PySem.Value.type "tuple", data := PySem.Data.seq #[] } : PySem.Obj)) ::
(nat_lit 58, ({ cls := PySem.Value.type "code", data := PySem.Data.fields #[PySem.Value.str (PySem.Str.ofString "register") 314, PySem.Value.str (PySem.Str.ofString "ABCMeta.register") 315, PySem.Value.str (PySem.Str.ofString "/claim/cut.py") 316, PySem.Value.int 14 0, PySem.Value.int 2 0, PySem.Value.int 0 0, PySem.Value.int 0 0, PySem.Value.int 3 0, PySem.Value.ref 53, PySem.Value.bool Bool.true, PySem.Value.int 276 0, PySem.Value.ref 54, PySem.Value.none, PySem.Value.ref 55, PySem.Value.ref 56, PySem.Value.ref 57, PySem.Value.int 319 0, PySem.Value.int 14 0, PySem.Value.str (PySem.Str.ofString "/claim/cut.py") 320] } : PySem.Obj)) ::
(nat_lit 59, ({ cls := PySem.Value.type "function", data := PySem.Data.func { name := PySem.Str.ofString "register", qualname := PySem.Str.ofString "ABCMeta.register", params := a59, body := PySem.FuncBody.stmts b59, scope := c59, globals := 3, closure := [], defaults := PySem.Value.none, kwdefaults := PySem.Value.none, pyModule := PySem.Value.str (PySem.Str.ofString "abc") 300, code := PySem.Value.ref 58 } } : PySem.Obj)) ::
(nat_lit 60, ({ cls := PySem.Value.type "tuple", data := PySem.Data.seq #[] } : PySem.Obj)) ::
(nat_lit 61, ({ cls := PySem.Value.type "dict", data := PySem.Data.dict #[{ hash := PySem.PyData.keyHash P (PySem.Str.ofString "__module__"), key := PySem.Value.str (PySem.Str.ofString "__module__") 309, val := PySem.Value.str (PySem.Str.ofString "abc") 300 }, { hash := PySem.PyData.keyHash P (PySem.Str.ofString "__firstlineno__"), key := PySem.Value.str (PySem.Str.ofString "__firstlineno__") 313, val := PySem.Value.int 12 312 }, { hash := PySem.PyData.keyHash P (PySem.Str.ofString "register"), key := PySem.Value.str (PySem.Str.ofString "register") 321, val := PySem.Value.ref 59 }, { hash := PySem.PyData.keyHash P (PySem.Str.ofString "__static_attributes__"), key := PySem.Value.str (PySem.Str.ofString "__static_attributes__") 322, val := PySem.Value.ref 60 }, { hash := PySem.PyData.keyHash P (PySem.Str.ofString "__doc__"), key := PySem.Value.str (PySem.Str.ofString "__doc__") 323, val := PySem.Value.none }] 2 } : PySem.Obj)) ::
(nat_lit 62, ({ cls := PySem.Value.type "type", data := PySem.Data.cls { name := PySem.Str.ofString "ABCMeta", bases := [PySem.Value.type "type"], mro := [PySem.Value.ref 62, PySem.Value.type "type", PySem.Value.type "object"], ns := 61, qualname := PySem.Str.ofString "ABCMeta", subclasses := [PySem.Value.ref 95] }, slots := #[Option.some (PySem.Value.ref 46), Option.none, Option.some (PySem.Value.str (PySem.Str.ofString "ABCMeta") 302), Option.some (PySem.Value.str (PySem.Str.ofString "ABCMeta") 310), Option.some (PySem.Value.builtin "type.__new__"), Option.some (PySem.Value.bool Bool.true)] } : PySem.Obj)) ::
(nat_lit 65, ({ cls := PySem.Value.type "tuple", data := PySem.Data.seq #[PySem.Value.ref 62] } : PySem.Obj)) ::
(nat_lit 72, ({ cls := PySem.Value.type "tuple", data := PySem.Data.seq #[] } : PySem.Obj)) ::
(nat_lit 74, ({ cls := PySem.Value.type "tuple", data := PySem.Data.seq #[PySem.Value.str (PySem.Str.ofString "cls") 343, PySem.Value.str (PySem.Str.ofString "instance") 344, PySem.Value.str (PySem.Str.ofString "C") 345] } : PySem.Obj)) ::
(nat_lit 75, ({ cls := PySem.Value.type "tuple", data := PySem.Data.seq #[] } : PySem.Obj)) ::
(nat_lit 77, ({ cls := PySem.Value.type "code", data := PySem.Data.fields #[PySem.Value.str (PySem.Str.ofString "__instancecheck__") 340, PySem.Value.str (PySem.Str.ofString "_ABCLike.__instancecheck__") 341, PySem.Value.str (PySem.Str.ofString "/claim/cut.py") 342, PySem.Value.int 19 0, PySem.Value.int 2 0, PySem.Value.int 0 0, PySem.Value.int 0 0, PySem.Value.int 3 0, PySem.Value.ref 72, PySem.Value.bool Bool.true, PySem.Value.int 276 0, PySem.Value.ref 73, PySem.Value.none, PySem.Value.ref 74, PySem.Value.ref 75, PySem.Value.ref 76, PySem.Value.int 346 0, PySem.Value.int 19 0, PySem.Value.str (PySem.Str.ofString "/claim/cut.py") 347] } : PySem.Obj)) ::
(nat_lit 78, ({ cls := PySem.Value.type "function", data := PySem.Data.func { name := PySem.Str.ofString "__instancecheck__", qualname := PySem.Str.ofString "_ABCLike.__instancecheck__", params := a78, body := PySem.FuncBody.stmts b78, scope := c78, globals := 3, closure := [], defaults := PySem.Value.none, kwdefaults := PySem.Value.none, pyModule := PySem.Value.str (PySem.Str.ofString "collections.abc") 326, code := PySem.Value.ref 77 } } : PySem.Obj)) ::
(nat_lit 79, ({ cls := PySem.Value.type "tuple", data := PySem.Data.seq #[] } : PySem.Obj)) ::
(nat_lit 81, ({ cls := PySem.Value.type "tuple", data := PySem.Data.seq #[PySem.Value.str (PySem.Str.ofString "cls") 352, PySem.Value.str (PySem.Str.ofString "C") 353] } : PySem.Obj)) ::
(nat_lit 82, ({ cls := PySem.Value.type "tuple", data := PySem.Data.seq #[] } : PySem.Obj)) ::
(nat_lit 84, ({ cls := PySem.Value.type "code", data := PySem.Data.fields #[PySem.Value.str (PySem.Str.ofString "__subclasscheck__") 349, PySem.Value.str (PySem.Str.ofString "_ABCLike.__subclasscheck__") 350, PySem.Value.str (PySem.Str.ofString "/claim/cut.py") 351, PySem.Value.int 25 0, PySem.Value.int 2 0, PySem.Value.int 0 0, PySem.Value.int 0 0, PySem.Value.int 3 0, PySem.Value.ref 79, PySem.Value.bool Bool.true, PySem.Value.int 276 0, PySem.Value.ref 80, PySem.Value.none, PySem.Value.ref 81, PySem.Value.ref 82, PySem.Value.ref 83, PySem.Value.int 354 0, PySem.Value.int 25 0, PySem.Value.str (PySem.Str.ofString "/claim/cut.py") 355] } : PySem.Obj)) ::
(nat_lit 85, ({ cls := PySem.Value.type "function", data := PySem.Data.func { name := PySem.Str.ofString "__subclasscheck__", qualname := PySem.Str.ofString "_ABCLike.__subclasscheck__", params := a85, body := PySem.FuncBody.stmts b85, scope := c85, globals := 3, closure := [], defaults := PySem.Value.none, kwdefaults := PySem.Value.none, pyModule := PySem.Value.str (PySem.Str.ofString "collections.abc") 326, code := PySem.Value.ref 84 } } : PySem.Obj)) ::
(nat_lit 86, ({ cls := PySem.Value.type "tuple", data := PySem.Data.seq #[] } : PySem.Obj)) ::
(nat_lit 88, ({ cls := PySem.Value.type "tuple", data := PySem.Data.seq #[PySem.Value.str (PySem.Str.ofString "cls") 360, PySem.Value.str (PySem.Str.ofString "subclass") 361] } : PySem.Obj)) ::
(nat_lit 89, ({ cls := PySem.Value.type "tuple", data := PySem.Data.seq #[] } : PySem.Obj)) ::
(nat_lit 91, ({ cls := PySem.Value.type "code", data := PySem.Data.fields #[PySem.Value.str (PySem.Str.ofString "register") 357, PySem.Value.str (PySem.Str.ofString "_ABCLike.register") 358, PySem.Value.str (PySem.Str.ofString "/claim/cut.py") 359, PySem.Value.int 30 0, PySem.Value.int 2 0, PySem.Value.int 0 0, PySem.Value.int 0 0, PySem.Value.int 3 0, PySem.Value.ref 86, PySem.Value.bool Bool.true, PySem.Value.int 276 0, PySem.Value.ref 87, PySem.Value.none, PySem.Value.ref 88, PySem.Value.ref 89, PySem.Value.ref 90, PySem.Value.int 362 0, PySem.Value.int 30 0, PySem.Value.str (PySem.Str.ofString "/claim/cut.py") 363] } : PySem.Obj)) ::
(nat_lit 92, ({ cls := PySem.Value.type "function", data := PySem.Data.func { name := PySem.Str.ofString "register", qualname := PySem.Str.ofString "_ABCLike.register", params := a92, body := PySem.FuncBody.stmts b92, scope := c92, globals := 3, closure := [], defaults := PySem.Value.none, kwdefaults := PySem.Value.none, pyModule := PySem.Value.str (PySem.Str.ofString "collections.abc") 326, code := PySem.Value.ref 91 } } : PySem.Obj)) ::
(nat_lit 93, ({ cls := PySem.Value.type "tuple", data := PySem.Data.seq #[] } : PySem.Obj)) ::
(nat_lit 94, ({ cls := PySem.Value.type "dict", data := PySem.Data.dict #[{ hash := PySem.PyData.keyHash P (PySem.Str.ofString "__module__"), key := PySem.Value.str (PySem.Str.ofString "__module__") 335, val := PySem.Value.str (PySem.Str.ofString "collections.abc") 326 }, { hash := PySem.PyData.keyHash P (PySem.Str.ofString "__firstlineno__"), key := PySem.Value.str (PySem.Str.ofString "__firstlineno__") 339, val := PySem.Value.int 17 338 }, { hash := PySem.PyData.keyHash P (PySem.Str.ofString "__instancecheck__"), key := PySem.Value.str (PySem.Str.ofString "__instancecheck__") 348, val := PySem.Value.ref 78 }, { hash := PySem.PyData.keyHash P (PySem.Str.ofString "__subclasscheck__"), key := PySem.Value.str (PySem.Str.ofString "__subclasscheck__") 356, val := PySem.Value.ref 85 }, { hash := PySem.PyData.keyHash P (PySem.Str.ofString "register"), key := PySem.Value.str (PySem.Str.ofString "register") 364, val := PySem.Value.ref 92 }, { hash := PySem.PyData.keyHash P (PySem.Str.ofString "__static_attributes__"), key := PySem.Value.str (PySem.Str.ofString "__static_attributes__") 365, val := PySem.Value.ref 93 }, { hash := PySem.PyData.keyHash P (PySem.Str.ofString "__doc__"), key := PySem.Value.str (PySem.Str.ofString "__doc__") 366, val := PySem.Value.none }] 2 } : PySem.Obj)) ::
(nat_lit 95, ({ cls := PySem.Value.type "type", data := PySem.Data.cls { name := PySem.Str.ofString "_ABCLike", bases := [PySem.Value.ref 62], mro := [PySem.Value.ref 95, PySem.Value.ref 62, PySem.Value.type "type", PySem.Value.type "object"], ns := 94, qualname := PySem.Str.ofString "_ABCLike" }, slots := #[Option.some (PySem.Value.ref 65), Option.none, Option.some (PySem.Value.str (PySem.Str.ofString "_ABCLike") 328), Option.some (PySem.Value.str (PySem.Str.ofString "_ABCLike") 336), Option.some (PySem.Value.builtin "type.__new__"), Option.some (PySem.Value.bool Bool.true)] } : PySem.Obj)) ::
(nat_lit 98, ({ cls := PySem.Value.type "tuple", data := PySem.Data.seq #[] } : PySem.Obj)) ::
(nat_lit 100, ({ cls := PySem.Value.type "tuple", data := PySem.Data.seq #[PySem.Value.str (PySem.Str.ofString "C") 372] } : PySem.Obj)) ::
(nat_lit 101, ({ cls := PySem.Value.type "tuple", data := PySem.Data.seq #[] } : PySem.Obj)) ::
(nat_lit 103, ({ cls := PySem.Value.type "code", data := PySem.Data.fields #[PySem.Value.str (PySem.Str.ofString "_abc_plain_meta") 369, PySem.Value.str (PySem.Str.ofString "_abc_plain_meta") 370, PySem.Value.str (PySem.Str.ofString "/claim/cut.py") 371, PySem.Value.int 32 0, PySem.Value.int 1 0, PySem.Value.int 0 0, PySem.Value.int 0 0, PySem.Value.int 3 0, PySem.Value.ref 98, PySem.Value.bool Bool.true, PySem.Value.int 276 0, PySem.Value.ref 99, PySem.Value.none, PySem.Value.ref 100, PySem.Value.ref 101, PySem.Value.ref 102, PySem.Value.int 373 0, PySem.Value.int 32 0, PySem.Value.str (PySem.Str.ofString "/claim/cut.py") 374] } : PySem.Obj)) ::
(nat_lit 104, ({ cls := PySem.Value.type "function", data := PySem.Data.func { name := PySem.Str.ofString "_abc_plain_meta", qualname := PySem.Str.ofString "_abc_plain_meta", params := a104, body := PySem.FuncBody.stmts b104, scope := c104, globals := 3, closure := [], defaults := PySem.Value.none, kwdefaults := PySem.Value.none, pyModule := PySem.Value.str (PySem.Str.ofString "collections.abc") 326, code := PySem.Value.ref 103 } } : PySem.Obj)) ::
(nat_lit 105, ({ cls := PySem.Value.type "tuple", data := PySem.Data.seq #[] } : PySem.Obj)) ::
(nat_lit 107, ({ cls := PySem.Value.type "tuple", data := PySem.Data.seq #[PySem.Value.str (PySem.Str.ofString "path") 381, PySem.Value.str (PySem.Str.ofString "kind") 382, PySem.Value.str (PySem.Str.ofString "hook") 383, PySem.Value.str (PySem.Str.ofString "given") 384] } : PySem.Obj)) ::
(nat_lit 108, ({ cls := PySem.Value.type "tuple", data := PySem.Data.seq #[] } : PySem.Obj)) ::
(nat_lit 110, ({ cls := PySem.Value.type "code", data := PySem.Data.fields #[PySem.Value.str (PySem.Str.ofString "fspath") 378, PySem.Value.str (PySem.Str.ofString "fspath") 379, PySem.Value.str (PySem.Str.ofString "/claim/cut.py") 380, PySem.Value.int 36 0, PySem.Value.int 1 0, PySem.Value.int 0 0, PySem.Value.int 0 0, PySem.Value.int 3 0, PySem.Value.ref 105, PySem.Value.bool Bool.true, PySem.Value.int 276 0, PySem.Value.ref 106, PySem.Value.none, PySem.Value.ref 107, PySem.Value.ref 108, PySem.Value.ref 109, PySem.Value.int 385 0, PySem.Value.int 36 0, PySem.Value.str (PySem.Str.ofString "/claim/cut.py") 386] } : PySem.Obj)) ::
(nat_lit 111, ({ cls := PySem.Value.type "function", data := PySem.Data.func { name := PySem.Str.ofString "fspath", qualname := PySem.Str.ofString "fspath", params := a111, body := PySem.FuncBody.stmts b111, scope := c111, globals := 3, closure := [], defaults := PySem.Value.none, kwdefaults := PySem.Value.none, pyModule := PySem.Value.str (PySem.Str.ofString "os") 376, code := PySem.Value.ref 110 } } : PySem.Obj)) ::
(nat_lit 112, ({ cls := PySem.Value.type "tuple", data := PySem.Data.seq #[] } : PySem.Obj)) ::
(nat_lit 114, ({ cls := PySem.Value.type "tuple", data := PySem.Data.seq #[PySem.Value.str (PySem.Str.ofString "funcname") 393, PySem.Value.str (PySem.Str.ofString "args") 394, PySem.Value.str (PySem.Str.ofString "hasstr") 395, PySem.Value.str (PySem.Str.ofString "hasbytes") 396, PySem.Value.str (PySem.Str.ofString "s") 397] } : PySem.Obj)) ::
(nat_lit 115, ({ cls := PySem.Value.type "tuple", data := PySem.Data.seq #[] } : PySem.Obj)) ::
(nat_lit 117, ({ cls := PySem.Value.type "code", data := PySem.Data.fields #[PySem.Value.str (PySem.Str.ofString "_check_arg_types") 390, PySem.Value.str (PySem.Str.ofString "_check_arg_types") 391, PySem.Value.str (PySem.Str.ofString "/claim/cut.py") 392, PySem.Value.int 53 0, PySem.Value.int 1 0, PySem.Value.int 0 0, PySem.Value.int 0 0, PySem.Value.int 7 0, PySem.Value.ref 112, PySem.Value.bool Bool.true, PySem.Value.int 276 0, PySem.Value.ref 113, PySem.Value.none, PySem.Value.ref 114, PySem.Value.ref 115, PySem.Value.ref 116, PySem.Value.int 398 0, PySem.Value.int 53 0, PySem.Value.str (PySem.Str.ofString "/claim/cut.py") 399] } : PySem.Obj)) ::
(nat_lit 118, ({ cls := PySem.Value.type "function", data := PySem.Data.func { name := PySem.Str.ofString "_check_arg_types", qualname := PySem.Str.ofString "_check_arg_types", params := a118, body := PySem.FuncBody.stmts b118, scope := c118, globals := 3, closure := [], defaults := PySem.Value.none, kwdefaults := PySem.Value.none, pyModule := PySem.Value.str (PySem.Str.ofString "cpy313.genericpath") 388, code := PySem.Value.ref 117 } } : PySem.Obj)) ::
(nat_lit 119, ({ cls := PySem.Value.type "tuple", data := PySem.Data.seq #[] } : PySem.Obj)) ::
(nat_lit 121, ({ cls := PySem.Value.type "tuple", data := PySem.Data.seq #[PySem.Value.str (PySem.Str.ofString "path") 406] } : PySem.Obj)) ::
(nat_lit 122, ({ cls := PySem.Value.type "tuple", data := PySem.Data.seq #[] } : PySem.Obj)) ::
(nat_lit 124, ({ cls := PySem.Value.type "code", data := PySem.Data.fields #[PySem.Value.str (PySem.Str.ofString "_get_sep") 403, PySem.Value.str (PySem.Str.ofString "_get_sep") 404, PySem.Value.str (PySem.Str.ofString "/claim/cut.py") 405, PySem.Value.int 65 0, PySem.Value.int 1 0, PySem.Value.int 0 0, PySem.Value.int 0 0, PySem.Value.int 3 0, PySem.Value.ref 119, PySem.Value.bool Bool.true, PySem.Value.int 276 0, PySem.Value.ref 120, PySem.Value.none, PySem.Value.ref 121, PySem.Value.ref 122, PySem.Value.ref 123, PySem.Value.int 407 0, PySem.Value.int 65 0, PySem.Value.str (PySem.Str.ofString "/claim/cut.py") 408] } : PySem.Obj)) ::
(nat_lit 125, ({ cls := PySem.Value.type "function", data := PySem.Data.func { name := PySem.Str.ofString "_get_sep", qualname := PySem.Str.ofString "_get_sep", params := a125, body := PySem.FuncBody.stmts b125, scope := c125, globals := 3, closure := [], defaults := PySem.Value.none, kwdefaults := PySem.Value.none, pyModule := PySem.Value.str (PySem.Str.ofString "cpy313.posixpath") 401, code := PySem.Value.ref 124 } } : PySem.Obj)) ::
(nat_lit 126, ({ cls := PySem.Value.type "tuple", data := PySem.Data.seq #[] } : PySem.Obj)) ::
(nat_lit 128, ({ cls := PySem.Value.type "tuple", data := PySem.Data.seq #[PySem.Value.str (PySem.Str.ofString "a") 413, PySem.Value.str (PySem.Str.ofString "p") 414, PySem.Value.str (PySem.Str.ofString "sep") 415, PySem.Value.str (PySem.Str.ofString "path") 416, PySem.Value.str (PySem.Str.ofString "b") 417] } : PySem.Obj)) ::
(nat_lit 129, ({ cls := PySem.Value.type "tuple", data := PySem.Data.seq #[] } : PySem.Obj)) ::
(nat_lit 131, ({ cls := PySem.Value.type "code", data := PySem.Data.fields #[PySem.Value.str (PySem.Str.ofString "join") 410, PySem.Value.str (PySem.Str.ofString "join") 411, PySem.Value.str (PySem.Str.ofString "/claim/cut.py") 412, PySem.Value.int 70 0, PySem.Value.int 1 0, PySem.Value.int 0 0, PySem.Value.int 0 0, PySem.Value.int 7 0, PySem.Value.ref 126, PySem.Value.bool Bool.true, PySem.Value.int 276 0, PySem.Value.ref 127, PySem.Value.none, PySem.Value.ref 128, PySem.Value.ref 129, PySem.Value.ref 130, PySem.Value.int 418 0, PySem.Value.int 70 0, PySem.Value.str (PySem.Str.ofString "/claim/cut.py") 419] } : PySem.Obj)) ::
(nat_lit 132, ({ cls := PySem.Value.type "function", data := PySem.Data.func { name := PySem.Str.ofString "join", qualname := PySem.Str.ofString "join", params := a132, body := PySem.FuncBody.stmts b132, scope := c132, globals := 3, closure := [], defaults := PySem.Value.none, kwdefaults := PySem.Value.none, pyModule := PySem.Value.str (PySem.Str.ofString "cpy313.posixpath") 401, code := PySem.Value.ref 131 } } : PySem.Obj)) ::
(nat_lit 133, ({ cls := PySem.Value.type "tuple", data := PySem.Data.seq #[] } : PySem.Obj)) ::
(nat_lit 135, ({ cls := PySem.Value.type "tuple", data := PySem.Data.seq #[PySem.Value.str (PySem.Str.ofString "p") 424, PySem.Value.str (PySem.Str.ofString "sep") 425, PySem.Value.str (PySem.Str.ofString "i") 426, PySem.Value.str (PySem.Str.ofString "head") 427, PySem.Value.str (PySem.Str.ofString "tail") 428] } : PySem.Obj)) ::
(nat_lit 136, ({ cls := PySem.Value.type "tuple", data := PySem.Data.seq #[] } : PySem.Obj)) ::
(nat_lit 138, ({ cls := PySem.Value.type "code", data := PySem.Data.fields #[PySem.Value.str (PySem.Str.ofString "split") 421, PySem.Value.str (PySem.Str.ofString "split") 422, PySem.Value.str (PySem.Str.ofString "/claim/cut.py") 423, PySem.Value.int 87 0, PySem.Value.int 1 0, PySem.Value.int 0 0, PySem.Value.int 0 0, PySem.Value.int 3 0, PySem.Value.ref 133, PySem.Value.bool Bool.true, PySem.Value.int 276 0, PySem.Value.ref 134, PySem.Value.none, PySem.Value.ref 135, PySem.Value.ref 136, PySem.Value.ref 137, PySem.Value.int 429 0, PySem.Value.int 87 0, PySem.Value.str (PySem.Str.ofString "/claim/cut.py") 430] } : PySem.Obj)) ::
(nat_lit 139, ({ cls := PySem.Value.type "function", data := PySem.Data.func { name := PySem.Str.ofString "split", qualname := PySem.Str.ofString "split", params := a139, body := PySem.FuncBody.stmts b139, scope := c139, globals := 3, closure := [], defaults := PySem.Value.none, kwdefaults := PySem.Value.none, pyModule := PySem.Value.str (PySem.Str.ofString "cpy313.posixpath") 401, code := PySem.Value.ref 138 } } : PySem.Obj)) ::
(nat_lit 140, ({ cls := PySem.Value.type "tuple", data := PySem.Data.seq #[] } : PySem.Obj)) ::
(nat_lit 142, ({ cls := PySem.Value.type "tuple", data := PySem.Data.seq #[PySem.Value.str (PySem.Str.ofString "p") 435, PySem.Value.str (PySem.Str.ofString "sep") 436, PySem.Value.str (PySem.Str.ofString "empty") 437] } : PySem.Obj)) ::
(nat_lit 143, ({ cls := PySem.Value.type "tuple", data := PySem.Data.seq #[] } : PySem.Obj)) ::
(nat_lit 145, ({ cls := PySem.Value.type "code", data := PySem.Data.fields #[PySem.Value.str (PySem.Str.ofString "splitroot") 432, PySem.Value.str (PySem.Str.ofString "splitroot") 433, PySem.Value.str (PySem.Str.ofString "/claim/cut.py") 434, PySem.Value.int 95 0, PySem.Value.int 1 0, PySem.Value.int 0 0, PySem.Value.int 0 0, PySem.Value.int 3 0, PySem.Value.ref 140, PySem.Value.bool Bool.true, PySem.Value.int 276 0, PySem.Value.ref 141, PySem.Value.none, PySem.Value.ref 142, PySem.Value.ref 143, PySem.Value.ref 144, PySem.Value.int 438 0, PySem.Value.int 95 0, PySem.Value.str (PySem.Str.ofString "/claim/cut.py") 439] } : PySem.Obj)) ::
(nat_lit 146, ({ cls := PySem.Value.type "function", data := PySem.Data.func { name := PySem.Str.ofString "splitroot", qualname := PySem.Str.ofString "splitroot", params := a146, body := PySem.FuncBody.stmts b146, scope := c146, globals := 3, closure := [], defaults := PySem.Value.none, kwdefaults := PySem.Value.none, pyModule := PySem.Value.str (PySem.Str.ofString "cpy313.posixpath") 401, code := PySem.Value.ref 145 } } : PySem.Obj)) ::
(nat_lit 147, ({ cls := PySem.Value.type "tuple", data := PySem.Data.seq #[] } : PySem.Obj)) ::
(nat_lit 149, ({ cls := PySem.Value.type "tuple", data := PySem.Data.seq #[PySem.Value.str (PySem.Str.ofString "path") 444, PySem.Value.str (PySem.Str.ofString "sep") 445, PySem.Value.str (PySem.Str.ofString "dot") 446, PySem.Value.str (PySem.Str.ofString "dotdot") 447, PySem.Value.str (PySem.Str.ofString "_") 448, PySem.Value.str (PySem.Str.ofString "initial_slashes") 449, PySem.Value.str (PySem.Str.ofString "comps") 450, PySem.Value.str (PySem.Str.ofString "new_comps") 451, PySem.Value.str (PySem.Str.ofString "comp") 452] } : PySem.Obj)) ::
(nat_lit 150, ({ cls := PySem.Value.type "tuple", data := PySem.Data.seq #[] } : PySem.Obj)) ::
(nat_lit 152, ({ cls := PySem.Value.type "code", data := PySem.Data.fields #[PySem.Value.str (PySem.Str.ofString "normpath") 441, PySem.Value.str (PySem.Str.ofString "normpath") 442, PySem.Value.str (PySem.Str.ofString "/claim/cut.py") 443, PySem.Value.int 109 0, PySem.Value.int 1 0, PySem.Value.int 0 0, PySem.Value.int 0 0, PySem.Value.int 3 0, PySem.Value.ref 147, PySem.Value.bool Bool.true, PySem.Value.int 276 0, PySem.Value.ref 148, PySem.Value.none, PySem.Value.ref 149, PySem.Value.ref 150, PySem.Value.ref 151, PySem.Value.int 453 0, PySem.Value.int 109 0, PySem.Value.str (PySem.Str.ofString "/claim/cut.py") 454] } : PySem.Obj)) ::
(nat_lit 153, ({ cls := PySem.Value.type "function", data := PySem.Data.func { name := PySem.Str.ofString "normpath", qualname := PySem.Str.ofString "normpath", params := a153, body := PySem.FuncBody.stmts b153, scope := c153, globals := 3, closure := [], defaults := PySem.Value.none, kwdefaults := PySem.Value.none, pyModule := PySem.Value.str (PySem.Str.ofString "cpy313.posixpath") 401, code := PySem.Value.ref 152 } } : PySem.Obj)) ::
(nat_lit 157, ({ cls := PySem.Value.type "tuple", data := PySem.Data.seq #[PySem.Value.int 14 0, PySem.Value.int 14 0, PySem.Value.int 4 0, PySem.Value.int 1 0, PySem.Value.int 1 0, PySem.Value.int 9 0, PySem.Value.int 0 0, PySem.Value.int 64 0, PySem.Value.int 0 0, PySem.Value.int 1342177280 0, PySem.Value.int 0 0, PySem.Value.int 0 0, PySem.Value.int 0 0, PySem.Value.int 0 0, PySem.Value.int 0 0, PySem.Value.int 17 0, PySem.Value.int 0 0, PySem.Value.int 13 0, PySem.Value.int 11 0, PySem.Value.int 9 0, PySem.Value.int 0 0, PySem.Value.int 64 0, PySem.Value.int 0 0, PySem.Value.int 1342177280 0, PySem.Value.int 0 0, PySem.Value.int 0 0, PySem.Value.int 0 0, PySem.Value.int 0 0, PySem.Value.int 0 0, PySem.Value.int 17 0, PySem.Value.int 1 0, PySem.Value.int 1 0] } : PySem.Obj)) ::
(nat_lit 158, ({ cls := PySem.Value.type "re.Pattern", data := PySem.Data.fields #[PySem.Value.str (PySem.Str.ofString "([&~|])") 457, PySem.Value.int 32 492, PySem.Value.int 1 0, PySem.Value.none, PySem.Value.none, PySem.Value.ref 157, PySem.Value.int 0 0] } : PySem.Obj)) ::
(nat_lit 160, ({ cls := PySem.Value.type "dict", data := PySem.Data.dict #[{ hash := 40, key := PySem.Value.int 40 497, val := PySem.Value.str (PySem.Str.ofString "\\(") 501 }, { hash := 41, key := PySem.Value.int 41 503, val := PySem.Value.str (PySem.Str.ofString "\\)") 507 }, { hash := 91, key := PySem.Value.int 91 509, val := PySem.Value.str (PySem.Str.ofString "\\[") 513 }, { hash := 93, key := PySem.Value.int 93 515, val := PySem.Value.str (PySem.Str.ofString "\\]") 519 }, { hash := 123, key := PySem.Value.int 123 521, val := PySem.Value.str (PySem.Str.ofString "\\{") 525 }, { hash := 125, key := PySem.Value.int 125 527, val := PySem.Value.str (PySem.Str.ofString "\\}") 531 }, { hash := 63, key := PySem.Value.int 63 533, val := PySem.Value.str (PySem.Str.ofString "\\?") 537 }, { hash := 42, key := PySem.Value.int 42 539, val := PySem.Value.str (PySem.Str.ofString "\\*") 543 }, { hash := 43, key := PySem.Value.int 43 545, val := PySem.Value.str (PySem.Str.ofString "\\+") 549 }, { hash := 45, key := PySem.Value.int 45 551, val := PySem.Value.str (PySem.Str.ofString "\\-") 555 }, { hash := 124, key := PySem.Value.int 124 557, val := PySem.Value.str (PySem.Str.ofString "\\|") 561 }, { hash := 94, key := PySem.Value.int 94 563, val := PySem.Value.str (PySem.Str.ofString "\\^") 567 }, { hash := 36, key := PySem.Value.int 36 569, val := PySem.Value.str (PySem.Str.ofString "\\$") 573 }, { hash := 92, key := PySem.Value.int 92 575, val := PySem.Value.str (PySem.Str.ofString "\\\\") 579 }, { hash := 46, key := PySem.Value.int 46 581, val := PySem.Value.str (PySem.Str.ofString "\\.") 585 }, { hash := 38, key := PySem.Value.int 38 587, val := PySem.Value.str (PySem.Str.ofString "\\&") 591 }, { hash := 126, key := PySem.Value.int 126 593, val := PySem.Value.str (PySem.Str.ofString "\\~") 597 }, { hash := 35, key := PySem.Value.int 35 599, val := PySem.Value.str (PySem.Str.ofString "\\#") 603 }, { hash := 32, key := PySem.Value.int 32 605, val := PySem.Value.str (PySem.Str.ofString "\\ ") 609 }, { hash := 9, key := PySem.Value.int 9 611, val := PySem.Value.str (PySem.Str.ofString "\\\t") 615 }, { hash := 10, key := PySem.Value.int 10 617, val := PySem.Value.str (PySem.Str.ofString "\\\n") 621 }, { hash := 13, key := PySem.Value.int 13 623, val := PySem.Value.str (PySem.Str.ofString "\\\x0d") 627 }, { hash := 11, key := PySem.Value.int 11 629, val := PySem.Value.str (PySem.Str.ofString "\\\x0b") 633 }, { hash := 12, key := PySem.Value.int 12 635, val := PySem.Value.str (PySem.Str.ofString "\\\x0c") 639 }] 24 } : PySem.Obj)) ::
(nat_lit 164, ({ cls := PySem.Value.type "tuple", data := PySem.Data.seq #[] } : PySem.Obj)) ::
(nat_lit 166, ({ cls := PySem.Value.type "tuple", data := PySem.Data.seq #[PySem.Value.str (PySem.Str.ofString "pattern") 645] } : PySem.Obj)) ::
(nat_lit 167, ({ cls := PySem.Value.type "tuple", data := PySem.Data.seq #[] } : PySem.Obj)) ::
(nat_lit 169, ({ cls := PySem.Value.type "code", data := PySem.Data.fields #[PySem.Value.str (PySem.Str.ofString "escape") 642, PySem.Value.str (PySem.Str.ofString "escape") 643, PySem.Value.str (PySem.Str.ofString "/claim/cut.py") 644, PySem.Value.int 137 0, PySem.Value.int 1 0, PySem.Value.int 0 0, PySem.Value.int 0 0, PySem.Value.int 3 0, PySem.Value.ref 164, PySem.Value.bool Bool.true, PySem.Value.int 276 0, PySem.Value.ref 165, PySem.Value.none, PySem.Value.ref 166, PySem.Value.ref 167, PySem.Value.ref 168, PySem.Value.int 646 0, PySem.Value.int 137 0, PySem.Value.str (PySem.Str.ofString "/claim/cut.py") 647] } : PySem.Obj)) ::
(nat_lit 170, ({ cls := PySem.Value.type "function", data := PySem.Data.func { name := PySem.Str.ofString "escape", qualname := PySem.Str.ofString "escape", params := a170, body := PySem.FuncBody.stmts b170, scope := c170, globals := 3, closure := [], defaults := PySem.Value.none, kwdefaults := PySem.Value.none, pyModule := PySem.Value.str (PySem.Str.ofString "re") 494, code := PySem.Value.ref 169 } } : PySem.Obj)) ::
(nat_lit 171, ({ cls := PySem.Value.type "tuple", data := PySem.Data.seq #[] } : PySem.Obj)) ::
(nat_lit 173, ({ cls := PySem.Value.type "tuple", data := PySem.Data.seq #[PySem.Value.str (PySem.Str.ofString "pat") 654, PySem.Value.str (PySem.Str.ofString "STAR") 655, PySem.Value.str (PySem.Str.ofString "QUESTION_MARK") 656, PySem.Value.str (PySem.Str.ofString "res") 657, PySem.Value.str (PySem.Str.ofString "add") 658, PySem.Value.str (PySem.Str.ofString "i") 659, PySem.Value.str (PySem.Str.ofString "n") 660, PySem.Value.str (PySem.Str.ofString "c") 661, PySem.Value.str (PySem.Str.ofString "j") 662, PySem.Value.str (PySem.Str.ofString "stuff") 663, PySem.Value.str (PySem.Str.ofString "chunks") 664, PySem.Value.str (PySem.Str.ofString "k") 665, PySem.Value.str (PySem.Str.ofString "chunk") 666] } : PySem.Obj)) ::
(nat_lit 174, ({ cls := PySem.Value.type "tuple", data := PySem.Data.seq #[] } : PySem.Obj)) ::
(nat_lit 176, ({ cls := PySem.Value.type "code", data := PySem.Data.fields #[PySem.Value.str (PySem.Str.ofString "_translate") 651, PySem.Value.str (PySem.Str.ofString "_translate") 652, PySem.Value.str (PySem.Str.ofString "/claim/cut.py") 653, PySem.Value.int 144 0, PySem.Value.int 3 0, PySem.Value.int 0 0, PySem.Value.int 0 0, PySem.Value.int 3 0, PySem.Value.ref 171, PySem.Value.bool Bool.true, PySem.Value.int 276 0, PySem.Value.ref 172, PySem.Value.none, PySem.Value.ref 173, PySem.Value.ref 174, PySem.Value.ref 175, PySem.Value.int 667 0, PySem.Value.int 144 0, PySem.Value.str (PySem.Str.ofString "/claim/cut.py") 668] } : PySem.Obj)) ::
(nat_lit 177, ({ cls := PySem.Value.type "function", data := PySem.Data.func { name := PySem.Str.ofString "_translate", qualname := PySem.Str.ofString "_translate", params := a177, body := PySem.FuncBody.stmts b177, scope := c177, globals := 3, closure := [], defaults := PySem.Value.none, kwdefaults := PySem.Value.none, pyModule := PySem.Value.str (PySem.Str.ofString "cpy313.fnmatch") 649, code := PySem.Value.ref 176 } } : PySem.Obj)) ::
(nat_lit 178, ({ cls := PySem.Value.type "tuple", data := PySem.Data.seq #[] } : PySem.Obj)) ::
(nat_lit 180, ({ cls := PySem.Value.type "tuple", data := PySem.Data.seq #[PySem.Value.str (PySem.Str.ofString "part") 675, PySem.Value.str (PySem.Str.ofString "table") 676] } : PySem.Obj)) ::
(nat_lit 181, ({ cls := PySem.Value.type "tuple", data := PySem.Data.seq #[] } : PySem.Obj)) ::
(nat_lit 183, ({ cls := PySem.Value.type "code", data := PySem.Data.fields #[PySem.Value.str (PySem.Str.ofString "_law_meant") 672, PySem.Value.str (PySem.Str.ofString "_law_meant") 673, PySem.Value.str (PySem.Str.ofString "/claim/cut.py") 674, PySem.Value.int 207 0, PySem.Value.int 1 0, PySem.Value.int 0 0, PySem.Value.int 0 0, PySem.Value.int 3 0, PySem.Value.ref 178, PySem.Value.bool Bool.true, PySem.Value.int 276 0, PySem.Value.ref 179, PySem.Value.none, PySem.Value.ref 180, PySem.Value.ref 181, PySem.Value.ref 182, PySem.Value.int 677 0, PySem.Value.int 207 0, PySem.Value.str (PySem.Str.ofString "/claim/cut.py") 678] } : PySem.Obj)) ::
(nat_lit 184, ({ cls := PySem.Value.type "function", data := PySem.Data.func { name := PySem.Str.ofString "_law_meant", qualname := PySem.Str.ofString "_law_meant", params := a184, body := PySem.FuncBody.stmts b184, scope := c184, globals := 3, closure := [], defaults := PySem.Value.none, kwdefaults := PySem.Value.none, pyModule := PySem.Value.str (PySem.Str.ofString "law_rx0110_01") 670, code := PySem.Value.ref 183 } } : PySem.Obj)) ::
(nat_lit 185, ({ cls := PySem.Value.type "tuple", data := PySem.Data.seq #[] } : PySem.Obj)) ::
(nat_lit 188, ({ cls := PySem.Value.type "code", data := PySem.Data.fields #[PySem.Value.str (PySem.Str.ofString "_law_takes") 680, PySem.Value.str (PySem.Str.ofString "_law_takes") 681, PySem.Value.str (PySem.Str.ofString "/claim/cut.py") 682, PySem.Value.int 210 0, PySem.Value.int 2 0, PySem.Value.int 0 0, PySem.Value.int 0 0, PySem.Value.int 3 0, PySem.Value.ref 185, PySem.Value.bool Bool.true, PySem.Value.int 276 0, PySem.Value.ref 186, PySem.Value.none, PySem.Value.none, PySem.Value.none, PySem.Value.ref 187, PySem.Value.int 683 0, PySem.Value.int 210 0, PySem.Value.str (PySem.Str.ofString "/claim/cut.py") 684] } : PySem.Obj)) ::
(nat_lit 189, ({ cls := PySem.Value.type "function", data := PySem.Data.func { name := PySem.Str.ofString "_law_takes", qualname := PySem.Str.ofString "_law_takes", params := a189, body := PySem.FuncBody.stmts b189, scope := c189, globals := 3, closure := [], defaults := PySem.Value.none, kwdefaults := PySem.Value.none, pyModule := PySem.Value.str (PySem.Str.ofString "law_rx0110_01") 670, code := PySem.Value.ref 188 } } : PySem.Obj)) ::
(nat_lit 190, ({ cls := PySem.Value.type "tuple", data := PySem.Data.seq #[] } : PySem.Obj)) ::
(nat_lit 193, ({ cls := PySem.Value.type "code", data := PySem.Data.fields #[PySem.Value.str (PySem.Str.ofString "_law_taken") 686, PySem.Value.str (PySem.Str.ofString "_law_taken") 687, PySem.Value.str (PySem.Str.ofString "/claim/cut.py") 688, PySem.Value.int 221 0, PySem.Value.int 1 0, PySem.Value.int 0 0, PySem.Value.int 0 0, PySem.Value.int 3 0, PySem.Value.ref 190, PySem.Value.bool Bool.true, PySem.Value.int 276 0, PySem.Value.ref 191, PySem.Value.none, PySem.Value.none, PySem.Value.none, PySem.Value.ref 192, PySem.Value.int 689 0, PySem.Value.int 221 0, PySem.Value.str (PySem.Str.ofString "/claim/cut.py") 690] } : PySem.Obj)) ::
(nat_lit 194, ({ cls := PySem.Value.type "function", data := PySem.Data.func { name := PySem.Str.ofString "_law_taken", qualname := PySem.Str.ofString "_law_taken", params := a194, body := PySem.FuncBody.stmts b194, scope := c194, globals := 3, closure := [], defaults := PySem.Value.none, kwdefaults := PySem.Value.none, pyModule := PySem.Value.str (PySem.Str.ofString "law_rx0110_01") 670, code := PySem.Value.ref 193 } } : PySem.Obj)) ::
(nat_lit 195, ({ cls := PySem.Value.type "tuple", data := PySem.Data.seq #[] } : PySem.Obj)) ::
(nat_lit 197, ({ cls := PySem.Value.type "tuple", data := PySem.Data.seq #[PySem.Value.str (PySem.Str.ofString "parts") 695, PySem.Value.str (PySem.Str.ofString "kept") 696, PySem.Value.str (PySem.Str.ofString "debt") 697, PySem.Value.str (PySem.Str.ofString "part") 698] } : PySem.Obj)) ::
(nat_lit 198, ({ cls := PySem.Value.type "tuple", data := PySem.Data.seq #[] } : PySem.Obj)) ::
(nat_lit 200, ({ cls := PySem.Value.type "code", data := PySem.Data.fields #[PySem.Value.str (PySem.Str.ofString "_law_straight") 692, PySem.Value.str (PySem.Str.ofString "_law_straight") 693, PySem.Value.str (PySem.Str.ofString "/claim/cut.py") 694, PySem.Value.int 224 0, PySem.Value.int 1 0, PySem.Value.int 0 0, PySem.Value.int 0 0, PySem.Value.int 3 0, PySem.Value.ref 195, PySem.Value.bool Bool.true, PySem.Value.int 276 0, PySem.Value.ref 196, PySem.Value.none, PySem.Value.ref 197, PySem.Value.ref 198, PySem.Value.ref 199, PySem.Value.int 699 0, PySem.Value.int 224 0, PySem.Value.str (PySem.Str.ofString "/claim/cut.py") 700] } : PySem.Obj)) ::
(nat_lit 201, ({ cls := PySem.Value.type "function", data := PySem.Data.func { name := PySem.Str.ofString "_law_straight", qualname := PySem.Str.ofString "_law_straight", params := a201, body := PySem.FuncBody.stmts b201, scope := c201, globals := 3, closure := [], defaults := PySem.Value.none, kwdefaults := PySem.Value.none, pyModule := PySem.Value.str (PySem.Str.ofString "law_rx0110_01") 670, code := PySem.Value.ref 200 } } : PySem.Obj)) ::
(nat_lit 202, ({ cls := PySem.Value.type "tuple", data := PySem.Data.seq #[] } : PySem.Obj)) ::
(nat_lit 205, ({ cls := PySem.Value.type "code", data := PySem.Data.fields #[PySem.Value.str (PySem.Str.ofString "_law_joined") 702, PySem.Value.str (PySem.Str.ofString "_law_joined") 703, PySem.Value.str (PySem.Str.ofString "/claim/cut.py") 704, PySem.Value.int 237 0, PySem.Value.int 1 0, PySem.Value.int 0 0, PySem.Value.int 0 0, PySem.Value.int 3 0, PySem.Value.ref 202, PySem.Value.bool Bool.true, PySem.Value.int 276 0, PySem.Value.ref 203, PySem.Value.none, PySem.Value.none, PySem.Value.none, PySem.Value.ref 204, PySem.Value.int 705 0, PySem.Value.int 237 0, PySem.Value.str (PySem.Str.ofString "/claim/cut.py") 706] } : PySem.Obj)) ::
(nat_lit 206, ({ cls := PySem.Value.type "function", data := PySem.Data.func { name := PySem.Str.ofString "_law_joined", qualname := PySem.Str.ofString "_law_joined", params := a206, body := PySem.FuncBody.stmts b206, scope := c206, globals := 3, closure := [], defaults := PySem.Value.none, kwdefaults := PySem.Value.none, pyModule := PySem.Value.str (PySem.Str.ofString "law_rx0110_01") 670, code := PySem.Value.ref 205 } } : PySem.Obj)) ::
(nat_lit 207, ({ cls := PySem.Value.type "tuple", data := PySem.Data.seq #[] } : PySem.Obj)) ::
(nat_lit 209, ({ cls := PySem.Value.type "tuple", data := PySem.Data.seq #[PySem.Value.str (PySem.Str.ofString "path") 711, PySem.Value.str (PySem.Str.ofString "tails") 712, PySem.Value.str (PySem.Str.ofString "tail") 713] } : PySem.Obj)) ::
(nat_lit 210, ({ cls := PySem.Value.type "tuple", data := PySem.Data.seq #[] } : PySem.Obj)) ::
(nat_lit 212, ({ cls := PySem.Value.type "code", data := PySem.Data.fields #[PySem.Value.str (PySem.Str.ofString "_law_tails") 708, PySem.Value.str (PySem.Str.ofString "_law_tails") 709, PySem.Value.str (PySem.Str.ofString "/claim/cut.py") 710, PySem.Value.int 245 0, PySem.Value.int 1 0, PySem.Value.int 0 0, PySem.Value.int 0 0, PySem.Value.int 3 0, PySem.Value.ref 207, PySem.Value.bool Bool.true, PySem.Value.int 276 0, PySem.Value.ref 208, PySem.Value.none, PySem.Value.ref 209, PySem.Value.ref 210, PySem.Value.ref 211, PySem.Value.int 714 0, PySem.Value.int 245 0, PySem.Value.str (PySem.Str.ofString "/claim/cut.py") 715] } : PySem.Obj)) ::
(nat_lit 213, ({ cls := PySem.Value.type "function", data := PySem.Data.func { name := PySem.Str.ofString "_law_tails", qualname := PySem.Str.ofString "_law_tails", params := a213, body := PySem.FuncBody.stmts b213, scope := c213, globals := 3, closure := [], defaults := PySem.Value.none, kwdefaults := PySem.Value.none, pyModule := PySem.Value.str (PySem.Str.ofString "law_rx0110_01") 670, code := PySem.Value.ref 212 } } : PySem.Obj)) ::
(nat_lit 214, ({ cls := PySem.Value.type "tuple", data := PySem.Data.seq #[] } : PySem.Obj)) ::
(nat_lit 217, ({ cls := PySem.Value.type "code", data := PySem.Data.fields #[PySem.Value.str (PySem.Str.ofString "law") 717, PySem.Value.str (PySem.Str.ofString "law") 718, PySem.Value.str (PySem.Str.ofString "/claim/cut.py") 719, PySem.Value.int 251 0, PySem.Value.int 1 0, PySem.Value.int 0 0, PySem.Value.int 0 0, PySem.Value.int 3 0, PySem.Value.ref 214, PySem.Value.bool Bool.true, PySem.Value.int 276 0, PySem.Value.ref 215, PySem.Value.none, PySem.Value.none, PySem.Value.none, PySem.Value.ref 216, PySem.Value.int 720 0, PySem.Value.int 251 0, PySem.Value.str (PySem.Str.ofString "/claim/cut.py") 721] } : PySem.Obj)) ::
(nat_lit 218, ({ cls := PySem.Value.type "function", data := PySem.Data.func { name := PySem.Str.ofString "law", qualname := PySem.Str.ofString "law", params := a218, body := PySem.FuncBody.stmts b218, scope := c218, globals := 3, closure := [], defaults := PySem.Value.none, kwdefaults := PySem.Value.none, pyModule := PySem.Value.str (PySem.Str.ofString "law_rx0110_01") 670, code := PySem.Value.ref 217 } } : PySem.Obj)) :: []
noncomputable def hdAs : List PySem.Addr := 2 :: 3 :: 32 :: 34 :: 35 :: 37 :: 38 :: 39 :: 41 :: 42 :: 44 :: 45 :: 46 :: 53 :: 55 :: 56 :: 58 :: 59 :: 60 :: 61 :: 62 :: 65 :: 72 :: 74 :: 75 :: 77 :: 78 :: 79 :: 81 :: 82 :: 84 :: 85 :: 86 :: 88 :: 89 :: 91 :: 92 :: 93 :: 94 :: 95 :: 98 :: 100 :: 101 :: 103 :: 104 :: 105 :: 107 :: 108 :: 110 :: 111 :: 112 :: 114 :: 115 :: 117 :: 118 :: 119 :: 121 :: 122 :: 124 :: 125 :: 126 :: 128 :: 129 :: 131 :: 132 :: 133 :: 135 :: 136 :: 138 :: 139 :: 140 :: 142 :: 143 :: 145 :: 146 :: 147 :: 149 :: 150 :: 152 :: 153 :: 157 :: 158 :: 160 :: 164 :: 166 :: 167 :: 169 :: 170 :: 171 :: 173 :: 174 :: 176 :: 177 :: 178 :: 180 :: 181 :: 183 :: 184 :: 185 :: 188 :: 189 :: 190 :: 193 :: 194 :: 195 :: 197 :: 198 :: 200 :: 201 :: 202 :: 205 :: 206 :: 207 :: 209 :: 210 :: 212 :: 213 :: 214 :: 217 :: 218 :: []

/-! the top's run over a heap as a tree, cut in two ahead of the statement that asks the world -/
noncomputable def topRunT (tb : String → Option Builtin) (p : Program) (w : World) (n₀ : Nat) (ann : Option Value) : Nat → SharedT → Thread → Option SharedT
  | 0, _, _ => none
  | n + 1, s, t => match through t with
    | true => some s
    | false => match stepOk n₀ ann t with
      | false => none
      | true => match stepT (denote tb) p w s t with
        | some (s', t') => topRunT tb p w n₀ ann n s' t'
        | none => none
noncomputable def topGoT (tb : String → Option Builtin) (p : Program) (w : World) (n₀ : Nat) (ann : Option Value) : Nat → SharedT → Thread → Option (SharedT × Thread)
  | 0, s, t => some (s, t)
  | n + 1, s, t => match through t with
    | true => none
    | false => match stepOk n₀ ann t with
      | false => none
      | true => match stepT (denote tb) p w s t with
        | some (s', t') => topGoT tb p w n₀ ann n s' t'
        | none => none
section
variable {tb : String → Option Builtin} {p : Program} {w : World} {n₀ : Nat} {ann : Option Value}
theorem topRun_ofT : ∀ {n : Nat} {s s' : SharedT} {t : Thread}, topRunT tb p w n₀ ann n s t = some s' → topRun tb p w n₀ ann n s.abs t = some s'.abs
  | 0, _, _, _, h => by cases h
  | n + 1, s, s', t, h => by
    unfold topRunT at h
    unfold topRun
    cases ht : through t with
    | true => rw [ht] at h; cases h; rfl
    | false =>
      rw [ht] at h
      cases hk : stepOk n₀ ann t with
      | false => rw [hk] at h; cases h
      | true =>
        rw [hk] at h
        cases hs : stepT (denote tb) p w s t with
        | none => rw [hs] at h; cases h
        | some r => obtain ⟨s₂, t₂⟩ := r; rw [hs] at h; rw [stepT_spec hs]; exact topRun_ofT h
theorem topGo_ofT : ∀ {n : Nat} {s s' : SharedT} {t t' : Thread}, topGoT tb p w n₀ ann n s t = some (s', t') → topGo tb p w n₀ ann n s.abs t = some (s'.abs, t')
  | 0, _, _, _, _, h => by cases h; rfl
  | n + 1, s, s', t, t', h => by
    unfold topGoT at h
    unfold topGo
    cases ht : through t with
    | true => rw [ht] at h; cases h
    | false =>
      rw [ht] at h
      cases hk : stepOk n₀ ann t with
      | false => rw [hk] at h; cases h
      | true =>
        rw [hk] at h
        cases hs : stepT (denote tb) p w s t with
        | none => rw [hs] at h; cases h
        | some r => obtain ⟨s₂, t₂⟩ := r; rw [hs] at h; rw [stepT_spec hs]; exact topGo_ofT h
end
noncomputable def impRunT (tb : String → Option Builtin) (p : Program) (w : World) : Nat → SharedT → Thread → Option SharedT
  | 0, _, _ => none
  | n + 1, s, t => match t.atExitBegin with
    | some [] => some s
    | some (_ :: _) => none
    | none => match stepT (denote tb) p w s t with
      | some (s', t') => impRunT tb p w n s' t'
      | none => none
theorem impRun_ofT {tb : String → Option Builtin} {p : Program} {w : World} : ∀ {n : Nat} {s s' : SharedT} {t : Thread}, impRunT tb p w n s t = some s' → importEnds tb p w n s.abs t = some s'.abs
  | 0, _, _, _, h => by cases h
  | n + 1, s, s', t, h => by
    unfold impRunT at h
    unfold importEnds
    cases ht : t.atExitBegin with
    | some l =>
      rw [ht] at h
      cases l with
      | nil => cases h; rfl
      | cons a l => cases h
    | none =>
      rw [ht] at h
      cases hs : stepT (denote tb) p w s t with
      | none => rw [hs] at h; cases h
      | some r => obtain ⟨s₂, t₂⟩ := r; rw [hs] at h; dsimp only; rw [stepT_spec hs]; exact impRun_ofT h
noncomputable def ofL : List Obj → Nat → BT → BT
  | [], _, t => t
  | o :: l, n, t => ofL l (n + 1) (t.ins n o)
noncomputable abbrev treeOf (l : List Obj) : BT := ofL l 0 .nil
noncomputable abbrev stT (l : List Obj) (n k : Nat) (os : OsState) : SharedT := ⟨treeOf l, n, {}, #[], {}, k, os⟩
noncomputable def topEnd (p q : Program) (loose : List Str) (Xt : Shared → Bool) {α : Type} (Yf : Shared → α) (h₀ : Heap) (s₁ : Shared) :=
  match staticsOk (importedModules p.main.body) h₀ s₁.heap && namesBound p s₁.heap && gensDone s₁ && laidKept h₀ s₁.heap with
  | true => some (openSeen q loose (importedModules p.main.body) Xt true s₁, Yf s₁)
  | false => none
theorem left_of_cut {p q : Program} {loose : List Str} {Xt : Shared → Bool} {α : Type} {Yf : Shared → α} {Ya : World → α} {I A B C D : Params → List Obj} {m₀ ma mb mc ki k₀ ka kb kc ni n1 n2 n3 N : Nat} {ann : Option Value} {env : Env} {c : Code} {q0 q1 q2 q3 q4 : Pos} {l1 l2 l3 b : List Stmt} (hb : l1 ++ (l2 ++ l3) = b)
    (start_ : (start (opening p)).1 = ⟨⟨#[], {}⟩, #[], {}, ki, (start (opening p)).1.os⟩) (le : Nat.ble ni (n1 + (1 + (n2 + (n3 + N)))) = true)
    (open_ : ∀ w : World, impRunT treeTable (opening p) w ni (stT [] 0 ki (start (opening p)).1.os) (start (opening p)).2 = some (stT (I w.params) m₀ k₀ (start (opening p)).1.os))
    (fence : ∀ (w : World) (os : OsState), (fenceModules? p (stT (I w.params) m₀ k₀ os).abs).map (fun s => (s.heap, s.gens, s.drawn, s.toks)) = some (absHeap (treeOf (A w.params)) m₀ {}, #[], {}, k₀))
    (size : ∀ w : World, ((absHeap (treeOf (A w.params)) m₀ {}).isNs mainGlobals, (absHeap (treeOf (A w.params)) m₀ {}).nsMap mainGlobals "__annotations__") = (true, ann))
    (pre : ∀ (w : World) (os : OsState), topGoT treeTable p w m₀ ann n1 (stT (A w.params) m₀ k₀ os) (topStub p) = some (stT (B w.params) ma ka os, ⟨denote treeTable (.body b env), c, q1, [topFrame q0]⟩))
    (block : ∀ (w : World) (os : OsState), segRunT treeTable p w m₀ ann 1 1 (stT (B w.params) ma ka os) (blockOf b env c q1 [topFrame q0]) = some (.next, stT (B w.params) ma ka os, c, q2))
    (run : ∀ (w : World) (os : OsState), segRunT treeTable p w m₀ ann 1 n2 (stT (B w.params) ma ka os) (piecesOf l1 env c q2 [topFrame q0]) = some (.next, stT (C w.params) mb kb os, c, q3))
    (ask : ∀ (w : World) (os : OsState), segRunT treeTable p w m₀ ann 1 n3 (stT (C w.params) mb kb os) (piecesOf l2 env c q3 [topFrame q0]) = some (.next, stT (D w.params) mc kc os, c, q4))
    (ends : ∀ (w : World) (os : OsState), (topRunT treeTable p w m₀ ann N (stT (D w.params) mc kc os) (restOf l3 env c q4 [topFrame q0])).bind (fun s₁ => topEnd p q loose Xt Yf (absHeap (treeOf (A w.params)) m₀ {}) s₁.abs) = some (openGood q loose, Ya w)) :
    LeftO p q loose Xt Yf Ya (n1 + (1 + (n2 + (n3 + N)))) := fun w => by
  subst hb
  have e1 := impRun_ofT (open_ w)
  have e0 : (stT [] 0 ki (start (opening p)).1.os).abs = (start (opening p)).1 := start_.symm
  rw [e0] at e1
  have e2 := importEnds_mono (n1 + (1 + (n2 + (n3 + N))) - ni) _ _ _ _ e1
  rw [show ni + (n1 + (1 + (n2 + (n3 + N))) - ni) = n1 + (1 + (n2 + (n3 + N))) by have := Nat.le_of_ble_eq_true le; omega] at e2
  obtain ⟨⟨h, gs, d, k, os⟩, e, e'⟩ := Option.map_eq_some_iff.mp (fence w (start (opening p)).1.os)
  obtain ⟨rfl, rfl, rfl, rfl⟩ : h = absHeap (treeOf (A w.params)) m₀ {} ∧ gs = #[] ∧ d = {} ∧ k = k₀ := by simpa using e'
  obtain ⟨z1, z2⟩ : _ ∧ _ := by simpa only [Prod.mk.injEq] using size w
  obtain ⟨s₁, hs, he⟩ := Option.bind_eq_some_iff.mp (ends w os)
  have r := go_top (topGo_ofT (pre w os)) (piece_block (segRun_of (block w os)) (piece_app (segRun_of (run w os)) (piece_app (segRun_of (ask w os)) (topRun_ofT hs))))
  have sz : (absHeap (treeOf (A w.params)) m₀ {}).objs.size = m₀ := absHeap_size _ _ _
  unfold openEnds fencedOpening
  rw [e2]
  show ((fenceModules? p _).bind (topFrom treeTable p w _)).map _ = _
  rw [e]
  show (topFrom treeTable p w _ _).map _ = _
  unfold topFrom
  dsimp only
  rw [z1, sz, z2]
  show ((topRun treeTable p w m₀ ann _ (stT (A w.params) m₀ k os).abs (topStub p)).bind _).map _ = _
  rw [r]
  unfold topEnd at he
  show (match staticsOk (importedModules p.main.body) _ s₁.abs.heap && namesBound p s₁.abs.heap && gensDone s₁.abs && laidKept _ s₁.abs.heap with | true => some s₁.abs | false => none).map _ = _
  split at he
  · exact he
  · cases he

/-! the states at which the top's run is cut -/
noncomputable def hob (P : PySem.Params) (a : Nat) : PySem.Obj := ((hd.heap_39 P).lookup a).getD default
noncomputable def t0L (P : PySem.Params) : List PySem.Obj := [PySem.W.boot_o_0 P,
({ cls := PySem.Value.type "dict", data := PySem.Data.dict #[{ hash := PySem.PyData.keyHash P (PySem.Str.ofString "builtins"), key := PySem.Value.str (PySem.Str.ofString "builtins") 162, val := PySem.Value.ref 4 }, { hash := PySem.PyData.keyHash P (PySem.Str.ofString "__main__"), key := PySem.Value.str (PySem.Str.ofString "__main__") 163, val := PySem.Value.ref 5 }, { hash := PySem.PyData.keyHash P (PySem.Str.ofString "_sre"), key := PySem.Value.str (PySem.Str.ofString "_sre") 244, val := PySem.Value.ref 12 }] 3 } : PySem.Obj),
({ cls := PySem.Value.none, data := PySem.Data.dict #[{ hash := PySem.PyData.keyHash P (PySem.Str.ofString "\x69mport.loaded._sre"), key := PySem.Value.str (PySem.Str.ofString "\x69mport.loaded._sre") 183, val := PySem.Value.bool Bool.true }, { hash := PySem.PyData.keyHash P (PySem.Str.ofString "class._frozen_importlib.BuiltinImporter"), key := PySem.Value.str (PySem.Str.ofString "class._frozen_importlib.BuiltinImporter") 185, val := PySem.Value.ref 14 }, { hash := PySem.PyData.keyHash P (PySem.Str.ofString "watched.\x69mport"), key := PySem.Value.str (PySem.Str.ofString "watched.\x69mport") 206, val := PySem.Value.ref 18 }, { hash := PySem.PyData.keyHash P (PySem.Str.ofString "class._frozen_importlib.ModuleSpec"), key := PySem.Value.str (PySem.Str.ofString "class._frozen_importlib.ModuleSpec") 216, val := PySem.Value.ref 22 }, { hash := PySem.PyData.keyHash P (PySem.Str.ofString "sys.modules.booked-epoch"), key := PySem.Value.str (PySem.Str.ofString "sys.modules.booked-epoch") 245, val := PySem.Value.int 3 0 }, { hash := PySem.PyData.keyHash P (PySem.Str.ofString "\x69mport.later-laid._sre"), key := PySem.Value.str (PySem.Str.ofString "\x69mport.later-laid._sre") 270, val := PySem.Value.bool Bool.true }, { hash := PySem.PyData.keyHash P (PySem.Str.ofString "watched.library"), key := PySem.Value.str (PySem.Str.ofString "watched.library") 272, val := PySem.Value.ref 27 }, { hash := PySem.PyData.keyHash P (PySem.Str.ofString "watched.library-objects"), key := PySem.Value.str (PySem.Str.ofString "watched.library-objects") 0, val := PySem.Value.str { cps := #[12] } 0 }, { hash := PySem.PyData.keyHash P (PySem.Str.ofString "watched.library-deep._sre"), key := PySem.Value.str (PySem.Str.ofString "watched.library-deep._sre") 273, val := PySem.Value.str { cps := #[4, 0, 0, 11, 4, 0, 0, 11, 4, 0, 0, 3, 4, 0, 0, 11, 8, 4, 100, 105, 99, 116, 2] } 0 }] 9 } : PySem.Obj),
({ cls := PySem.Value.type "dict", data := PySem.Data.dict #[{ hash := PySem.PyData.keyHash P (PySem.Str.ofString "__name__"), key := PySem.Value.str (PySem.Str.ofString "__name__") 165, val := PySem.Value.str (PySem.Str.ofString "__main__") 164 }, { hash := PySem.PyData.keyHash P (PySem.Str.ofString "__doc__"), key := PySem.Value.str (PySem.Str.ofString "__doc__") 166, val := PySem.Value.none }, { hash := PySem.PyData.keyHash P (PySem.Str.ofString "__package__"), key := PySem.Value.str (PySem.Str.ofString "__package__") 167, val := PySem.Value.none }, { hash := PySem.PyData.keyHash P (PySem.Str.ofString "__loader__"), key := PySem.Value.str (PySem.Str.ofString "__loader__") 168, val := PySem.Value.builtin "__main__.__loader__#opaque" }, { hash := PySem.PyData.keyHash P (PySem.Str.ofString "__spec__"), key := PySem.Value.str (PySem.Str.ofString "__spec__") 169, val := PySem.Value.none }, { hash := PySem.PyData.keyHash P (PySem.Str.ofString "__annotations__"), key := PySem.Value.str (PySem.Str.ofString "__annotations__") 170, val := PySem.Value.ref 6 }, { hash := PySem.PyData.keyHash P (PySem.Str.ofString "__builtins__"), key := PySem.Value.str (PySem.Str.ofString "__builtins__") 171, val := PySem.Value.ref 4 }, { hash := PySem.PyData.keyHash P (PySem.Str.ofString "__file__"), key := PySem.Value.str (PySem.Str.ofString "__file__") 173, val := PySem.Value.str (PySem.Str.ofString "/claim/cut.py") 172 }, { hash := PySem.PyData.keyHash P (PySem.Str.ofString "__cached__"), key := PySem.Value.str (PySem.Str.ofString "__cached__") 174, val := PySem.Value.none }, { hash := PySem.PyData.keyHash P (PySem.Str.ofString "_sre"), key := PySem.Value.str (PySem.Str.ofString "_sre") 275, val := PySem.Value.ref 12 }] 10 } : PySem.Obj),
PySem.W.boot_o_4 P,
PySem.W.boot_o_5 P,
PySem.W.boot_o_6 P,
PySem.W.boot_o_7 P,
PySem.W.boot_o_8 P,
PySem.W.boot_o_9 P,
PySem.W.boot_o_10 P,
({ cls := PySem.Value.type "dict", data := PySem.Data.dict #[{ hash := PySem.PyData.keyHash P (PySem.Str.ofString "__name__"), key := PySem.Value.str (PySem.Str.ofString "__name__") 247, val := PySem.Value.str (PySem.Str.ofString "_sre") 246 }, { hash := PySem.PyData.keyHash P (PySem.Str.ofString "__doc__"), key := PySem.Value.str (PySem.Str.ofString "__doc__") 248, val := PySem.Value.none }, { hash := PySem.PyData.keyHash P (PySem.Str.ofString "__package__"), key := PySem.Value.str (PySem.Str.ofString "__package__") 250, val := PySem.Value.str (PySem.Str.ofString "") 249 }, { hash := PySem.PyData.keyHash P (PySem.Str.ofString "__loader__"), key := PySem.Value.str (PySem.Str.ofString "__loader__") 251, val := PySem.Value.builtin "off-the-table:_sre.__loader__:shared#opaque" }, { hash := PySem.PyData.keyHash P (PySem.Str.ofString "__spec__"), key := PySem.Value.str (PySem.Str.ofString "__spec__") 252, val := PySem.Value.builtin "off-the-table:_sre.__spec__:shared#opaque" }, { hash := PySem.PyData.keyHash P (PySem.Str.ofString "compile"), key := PySem.Value.str (PySem.Str.ofString "compile") 253, val := PySem.Value.builtin "_sre.compile" }, { hash := PySem.PyData.keyHash P (PySem.Str.ofString "template"), key := PySem.Value.str (PySem.Str.ofString "template") 254, val := PySem.Value.builtin "off-the-table:_sre.template:shared#opaque" }, { hash := PySem.PyData.keyHash P (PySem.Str.ofString "getcodesize"), key := PySem.Value.str (PySem.Str.ofString "getcodesize") 255, val := PySem.Value.builtin "off-the-table:_sre.getcodesize:shared#opaque" }, { hash := PySem.PyData.keyHash P (PySem.Str.ofString "ascii_iscased"), key := PySem.Value.str (PySem.Str.ofString "ascii_iscased") 256, val := PySem.Value.builtin "off-the-table:_sre.ascii_iscased:shared#opaque" }, { hash := PySem.PyData.keyHash P (PySem.Str.ofString "unicode_iscased"), key := PySem.Value.str (PySem.Str.ofString "unicode_iscased") 257, val := PySem.Value.builtin "off-the-table:_sre.unicode_iscased:shared#opaque" }, { hash := PySem.PyData.keyHash P (PySem.Str.ofString "ascii_tolower"), key := PySem.Value.str (PySem.Str.ofString "ascii_tolower") 258, val := PySem.Value.builtin "off-the-table:_sre.ascii_tolower:shared#opaque" }, { hash := PySem.PyData.keyHash P (PySem.Str.ofString "unicode_tolower"), key := PySem.Value.str (PySem.Str.ofString "unicode_tolower") 259, val := PySem.Value.builtin "off-the-table:_sre.unicode_tolower:shared#opaque" }, { hash := PySem.PyData.keyHash P (PySem.Str.ofString "MAGIC"), key := PySem.Value.str (PySem.Str.ofString "MAGIC") 261, val := PySem.Value.int 20230612 260 }, { hash := PySem.PyData.keyHash P (PySem.Str.ofString "CODESIZE"), key := PySem.Value.str (PySem.Str.ofString "CODESIZE") 263, val := PySem.Value.int 4 262 }, { hash := PySem.PyData.keyHash P (PySem.Str.ofString "MAXREPEAT"), key := PySem.Value.str (PySem.Str.ofString "MAXREPEAT") 265, val := PySem.Value.int 4294967295 264 }, { hash := PySem.PyData.keyHash P (PySem.Str.ofString "MAXGROUPS"), key := PySem.Value.str (PySem.Str.ofString "MAXGROUPS") 267, val := PySem.Value.int 1073741823 266 }, { hash := PySem.PyData.keyHash P (PySem.Str.ofString "copyright"), key := PySem.Value.str (PySem.Str.ofString "copyright") 269, val := PySem.Value.str (PySem.Str.ofString " SRE 2.2.2 Copyright (c) 1997-2002 by Secret Labs AB ") 268 }] 17 } : PySem.Obj),
({ cls := PySem.Value.type "module", dict := Option.some 11 } : PySem.Obj),
({ cls := PySem.Value.type "dict", data := PySem.Data.dict #[{ hash := PySem.PyData.keyHash P (PySem.Str.ofString "__module__"), key := PySem.Value.str (PySem.Str.ofString "__module__") 189, val := PySem.Value.str (PySem.Str.ofString "_frozen_importlib") 186 }, { hash := PySem.PyData.keyHash P (PySem.Str.ofString "__firstlineno__"), key := PySem.Value.str (PySem.Str.ofString "__firstlineno__") 190, val := PySem.Value.int 971 187 }, { hash := PySem.PyData.keyHash P (PySem.Str.ofString "__doc__"), key := PySem.Value.str (PySem.Str.ofString "__doc__") 191, val := PySem.Value.builtin "_frozen_importlib.BuiltinImporter.__doc__:str#opaque" }, { hash := PySem.PyData.keyHash P (PySem.Str.ofString "_ORIGIN"), key := PySem.Value.str (PySem.Str.ofString "_ORIGIN") 192, val := PySem.Value.str (PySem.Str.ofString "built-in") 188 }, { hash := PySem.PyData.keyHash P (PySem.Str.ofString "find_spec"), key := PySem.Value.str (PySem.Str.ofString "find_spec") 193, val := PySem.Value.builtin "_frozen_importlib.BuiltinImporter.find_spec#opaque" }, { hash := PySem.PyData.keyHash P (PySem.Str.ofString "create_module"), key := PySem.Value.str (PySem.Str.ofString "create_module") 194, val := PySem.Value.builtin "_frozen_importlib.BuiltinImporter.create_module#opaque" }, { hash := PySem.PyData.keyHash P (PySem.Str.ofString "exec_module"), key := PySem.Value.str (PySem.Str.ofString "exec_module") 195, val := PySem.Value.builtin "_frozen_importlib.BuiltinImporter.exec_module#opaque" }, { hash := PySem.PyData.keyHash P (PySem.Str.ofString "get_code"), key := PySem.Value.str (PySem.Str.ofString "get_code") 196, val := PySem.Value.builtin "_frozen_importlib.BuiltinImporter.get_code#opaque" }, { hash := PySem.PyData.keyHash P (PySem.Str.ofString "get_source"), key := PySem.Value.str (PySem.Str.ofString "get_source") 197, val := PySem.Value.builtin "_frozen_importlib.BuiltinImporter.get_source#opaque" }, { hash := PySem.PyData.keyHash P (PySem.Str.ofString "is_package"), key := PySem.Value.str (PySem.Str.ofString "is_package") 198, val := PySem.Value.builtin "_frozen_importlib.BuiltinImporter.is_package#opaque" }, { hash := PySem.PyData.keyHash P (PySem.Str.ofString "load_module"), key := PySem.Value.str (PySem.Str.ofString "load_module") 199, val := PySem.Value.builtin "_frozen_importlib.BuiltinImporter.load_module#opaque" }, { hash := PySem.PyData.keyHash P (PySem.Str.ofString "__static_attributes__"), key := PySem.Value.str (PySem.Str.ofString "__static_attributes__") 200, val := PySem.Value.ref 15 }, { hash := PySem.PyData.keyHash P (PySem.Str.ofString "__dict__"), key := PySem.Value.str (PySem.Str.ofString "__dict__") 202, val := PySem.Value.ref 16 }, { hash := PySem.PyData.keyHash P (PySem.Str.ofString "__weakref__"), key := PySem.Value.str (PySem.Str.ofString "__weakref__") 204, val := PySem.Value.ref 17 }] 14 } : PySem.Obj),
({ cls := PySem.Value.type "type", data := PySem.Data.cls { name := PySem.Str.ofString "BuiltinImporter", bases := [PySem.Value.type "object"], mro := [PySem.Value.ref 14, PySem.Value.type "object"], ns := 13, qualname := PySem.Str.ofString "BuiltinImporter" } } : PySem.Obj),
({ cls := PySem.Value.type "tuple", data := PySem.Data.seq #[] } : PySem.Obj),
({ cls := PySem.Value.type "getset_descriptor", data := PySem.Data.fields #[PySem.Value.str (PySem.Str.ofString "__dict__") 201, PySem.Value.ref 14, PySem.Value.builtin "function.__dict__", PySem.Value.builtin "function.__dict__#set"] } : PySem.Obj),
({ cls := PySem.Value.type "getset_descriptor", data := PySem.Data.fields #[PySem.Value.str (PySem.Str.ofString "__weakref__") 203, PySem.Value.ref 14, PySem.Value.builtin "ExceptionGroup.__weakref__", PySem.Value.none] } : PySem.Obj),
({ cls := PySem.Value.none, data := PySem.Data.seq #[PySem.Value.int 13 0, PySem.Value.str { cps := #[6, 189, 10, 95, 95, 109, 111, 100, 117, 108, 101, 95, 95, 6, 186, 17, 95, 102, 114, 111, 122, 101, 110, 95, 105, 109, 112, 111, 114, 116, 108, 105, 98, 6, 190, 15, 95, 95, 102, 105, 114, 115, 116, 108, 105, 110, 101, 110, 111, 95, 95, 4, 187, 0, 971, 6, 191, 7, 95, 95, 100, 111, 99, 95, 95, 9, 52, 95, 102, 114, 111, 122, 101, 110, 95, 105, 109, 112, 111, 114, 116, 108, 105, 98, 46, 66, 117, 105, 108, 116, 105, 110, 73, 109, 112, 111, 114, 116, 101, 114, 46, 95, 95, 100, 111, 99, 95, 95, 58, 115, 116, 114, 35, 111, 112, 97, 113, 117, 101, 6, 192, 7, 95, 79, 82, 73, 71, 73, 78, 6, 188, 8, 98, 117, 105, 108, 116, 45, 105, 110, 6, 193, 9, 102, 105, 110, 100, 95, 115, 112, 101, 99, 9, 50, 95, 102, 114, 111, 122, 101, 110, 95, 105, 109, 112, 111, 114, 116, 108, 105, 98, 46, 66, 117, 105, 108, 116, 105, 110, 73, 109, 112, 111, 114, 116, 101, 114, 46, 102, 105, 110, 100, 95, 115, 112, 101, 99, 35, 111, 112, 97, 113, 117, 101, 6, 194, 13, 99, 114, 101, 97, 116, 101, 95, 109, 111, 100, 117, 108, 101, 9, 54, 95, 102, 114, 111, 122, 101, 110, 95, 105, 109, 112, 111, 114, 116, 108, 105, 98, 46, 66, 117, 105, 108, 116, 105, 110, 73, 109, 112, 111, 114, 116, 101, 114, 46, 99, 114, 101, 97, 116, 101, 95, 109, 111, 100, 117, 108, 101, 35, 111, 112, 97, 113, 117, 101, 6, 195, 11, 101, 120, 101, 99, 95, 109, 111, 100, 117, 108, 101, 9, 52, 95, 102, 114, 111, 122, 101, 110, 95, 105, 109, 112, 111, 114, 116, 108, 105, 98, 46, 66, 117, 105, 108, 116, 105, 110, 73, 109, 112, 111, 114, 116, 101, 114, 46, 101, 120, 101, 99, 95, 109, 111, 100, 117, 108, 101, 35, 111, 112, 97, 113, 117, 101, 6, 196, 8, 103, 101, 116, 95, 99, 111, 100, 101, 9, 49, 95, 102, 114, 111, 122, 101, 110, 95, 105, 109, 112, 111, 114, 116, 108, 105, 98, 46, 66, 117, 105, 108, 116, 105, 110, 73, 109, 112, 111, 114, 116, 101, 114, 46, 103, 101, 116, 95, 99, 111, 100, 101, 35, 111, 112, 97, 113, 117, 101, 6, 197, 10, 103, 101, 116, 95, 115, 111, 117, 114, 99, 101, 9, 51, 95, 102, 114, 111, 122, 101, 110, 95, 105, 109, 112, 111, 114, 116, 108, 105, 98, 46, 66, 117, 105, 108, 116, 105, 110, 73, 109, 112, 111, 114, 116, 101, 114, 46, 103, 101, 116, 95, 115, 111, 117, 114, 99, 101, 35, 111, 112, 97, 113, 117, 101, 6, 198, 10, 105, 115, 95, 112, 97, 99, 107, 97, 103, 101, 9, 51, 95, 102, 114, 111, 122, 101, 110, 95, 105, 109, 112, 111, 114, 116, 108, 105, 98, 46, 66, 117, 105, 108, 116, 105, 110, 73, 109, 112, 111, 114, 116, 101, 114, 46, 105, 115, 95, 112, 97, 99, 107, 97, 103, 101, 35, 111, 112, 97, 113, 117, 101, 6, 199, 11, 108, 111, 97, 100, 95, 109, 111, 100, 117, 108, 101, 9, 52, 95, 102, 114, 111, 122, 101, 110, 95, 105, 109, 112, 111, 114, 116, 108, 105, 98, 46, 66, 117, 105, 108, 116, 105, 110, 73, 109, 112, 111, 114, 116, 101, 114, 46, 108, 111, 97, 100, 95, 109, 111, 100, 117, 108, 101, 35, 111, 112, 97, 113, 117, 101, 6, 200, 21, 95, 95, 115, 116, 97, 116, 105, 99, 95, 97, 116, 116, 114, 105, 98, 117, 116, 101, 115, 95, 95, 4, 0, 0, 15, 6, 202, 8, 95, 95, 100, 105, 99, 116, 95, 95, 4, 0, 0, 16, 6, 204, 11, 95, 95, 119, 101, 97, 107, 114, 101, 102, 95, 95, 4, 0, 0, 17] } 0, PySem.Value.bool Bool.true, PySem.Value.bool Bool.true, PySem.Value.str (PySem.Str.ofString "") 205, PySem.Value.int 21 0, PySem.Value.str { cps := #[6, 227, 10, 95, 95, 109, 111, 100, 117, 108, 101, 95, 95, 6, 217, 17, 95, 102, 114, 111, 122, 101, 110, 95, 105, 109, 112, 111, 114, 116, 108, 105, 98, 6, 228, 15, 95, 95, 102, 105, 114, 115, 116, 108, 105, 110, 101, 110, 111, 95, 95, 4, 218, 0, 562, 6, 229, 7, 95, 95, 100, 111, 99, 95, 95, 9, 47, 95, 102, 114, 111, 122, 101, 110, 95, 105, 109, 112, 111, 114, 116, 108, 105, 98, 46, 77, 111, 100, 117, 108, 101, 83, 112, 101, 99, 46, 95, 95, 100, 111, 99, 95, 95, 58, 115, 116, 114, 35, 111, 112, 97, 113, 117, 101, 6, 230, 8, 95, 95, 105, 110, 105, 116, 95, 95, 9, 44, 95, 102, 114, 111, 122, 101, 110, 95, 105, 109, 112, 111, 114, 116, 108, 105, 98, 46, 77, 111, 100, 117, 108, 101, 83, 112, 101, 99, 46, 95, 95, 105, 110, 105, 116, 95, 95, 35, 111, 112, 97, 113, 117, 101, 6, 231, 8, 95, 95, 114, 101, 112, 114, 95, 95, 9, 44, 95, 102, 114, 111, 122, 101, 110, 95, 105, 109, 112, 111, 114, 116, 108, 105, 98, 46, 77, 111, 100, 117, 108, 101, 83, 112, 101, 99, 46, 95, 95, 114, 101, 112, 114, 95, 95, 35, 111, 112, 97, 113, 117, 101, 6, 232, 6, 95, 95, 101, 113, 95, 95, 9, 42, 95, 102, 114, 111, 122, 101, 110, 95, 105, 109, 112, 111, 114, 116, 108, 105, 98, 46, 77, 111, 100, 117, 108, 101, 83, 112, 101, 99, 46, 95, 95, 101, 113, 95, 95, 35, 111, 112, 97, 113, 117, 101, 6, 233, 6, 99, 97, 99, 104, 101, 100, 9, 42, 95, 102, 114, 111, 122, 101, 110, 95, 105, 109, 112, 111, 114, 116, 108, 105, 98, 46, 77, 111, 100, 117, 108, 101, 83, 112, 101, 99, 46, 99, 97, 99, 104, 101, 100, 35, 111, 112, 97, 113, 117, 101, 6, 234, 6, 112, 97, 114, 101, 110, 116, 9, 42, 95, 102, 114, 111, 122, 101, 110, 95, 105, 109, 112, 111, 114, 116, 108, 105, 98, 46, 77, 111, 100, 117, 108, 101, 83, 112, 101, 99, 46, 112, 97, 114, 101, 110, 116, 35, 111, 112, 97, 113, 117, 101, 6, 235, 12, 104, 97, 115, 95, 108, 111, 99, 97, 116, 105, 111, 110, 9, 48, 95, 102, 114, 111, 122, 101, 110, 95, 105, 109, 112, 111, 114, 116, 108, 105, 98, 46, 77, 111, 100, 117, 108, 101, 83, 112, 101, 99, 46, 104, 97, 115, 95, 108, 111, 99, 97, 116, 105, 111, 110, 35, 111, 112, 97, 113, 117, 101, 6, 236, 21, 95, 95, 115, 116, 97, 116, 105, 99, 95, 97, 116, 116, 114, 105, 98, 117, 116, 101, 115, 95, 95, 4, 0, 0, 23, 6, 238, 8, 95, 95, 100, 105, 99, 116, 95, 95, 4, 0, 0, 24, 6, 240, 11, 95, 95, 119, 101, 97, 107, 114, 101, 102, 95, 95, 4, 0, 0, 25, 6, 241, 8, 95, 95, 104, 97, 115, 104, 95, 95, 0] } 0, PySem.Value.bool Bool.true, PySem.Value.bool Bool.true, PySem.Value.str (PySem.Str.ofString "") 242] 1 } : PySem.Obj),
({ cls := PySem.Value.type "list", data := PySem.Data.seq #[] } : PySem.Obj),
({ cls := PySem.Value.type "dict", data := PySem.Data.dict #[{ hash := PySem.PyData.keyHash P (PySem.Str.ofString "name"), key := PySem.Value.str (PySem.Str.ofString "name") 208, val := PySem.Value.str (PySem.Str.ofString "_sre") 207 }, { hash := PySem.PyData.keyHash P (PySem.Str.ofString "loader"), key := PySem.Value.str (PySem.Str.ofString "loader") 209, val := PySem.Value.ref 14 }, { hash := PySem.PyData.keyHash P (PySem.Str.ofString "origin"), key := PySem.Value.str (PySem.Str.ofString "origin") 210, val := PySem.Value.str (PySem.Str.ofString "built-in") 184 }, { hash := PySem.PyData.keyHash P (PySem.Str.ofString "loader_state"), key := PySem.Value.str (PySem.Str.ofString "loader_state") 211, val := PySem.Value.none }, { hash := PySem.PyData.keyHash P (PySem.Str.ofString "submodule_search_locations"), key := PySem.Value.str (PySem.Str.ofString "submodule_search_locations") 212, val := PySem.Value.none }, { hash := PySem.PyData.keyHash P (PySem.Str.ofString "_uninitialized_submodules"), key := PySem.Value.str (PySem.Str.ofString "_uninitialized_submodules") 213, val := PySem.Value.ref 19 }, { hash := PySem.PyData.keyHash P (PySem.Str.ofString "_set_fileattr"), key := PySem.Value.str (PySem.Str.ofString "_set_fileattr") 214, val := PySem.Value.bool Bool.false }, { hash := PySem.PyData.keyHash P (PySem.Str.ofString "_cached"), key := PySem.Value.str (PySem.Str.ofString "_cached") 215, val := PySem.Value.none }, { hash := PySem.PyData.keyHash P (PySem.Str.ofString "_initializing"), key := PySem.Value.str (PySem.Str.ofString "_initializing") 243, val := PySem.Value.bool Bool.false }] 9 } : PySem.Obj),
({ cls := PySem.Value.type "dict", data := PySem.Data.dict #[{ hash := PySem.PyData.keyHash P (PySem.Str.ofString "__module__"), key := PySem.Value.str (PySem.Str.ofString "__module__") 227, val := PySem.Value.str (PySem.Str.ofString "_frozen_importlib") 217 }, { hash := PySem.PyData.keyHash P (PySem.Str.ofString "__firstlineno__"), key := PySem.Value.str (PySem.Str.ofString "__firstlineno__") 228, val := PySem.Value.int 562 218 }, { hash := PySem.PyData.keyHash P (PySem.Str.ofString "__doc__"), key := PySem.Value.str (PySem.Str.ofString "__doc__") 229, val := PySem.Value.builtin "_frozen_importlib.ModuleSpec.__doc__:str#opaque" }, { hash := PySem.PyData.keyHash P (PySem.Str.ofString "__init__"), key := PySem.Value.str (PySem.Str.ofString "__init__") 230, val := PySem.Value.builtin "_frozen_importlib.ModuleSpec.__init__#opaque" }, { hash := PySem.PyData.keyHash P (PySem.Str.ofString "__repr__"), key := PySem.Value.str (PySem.Str.ofString "__repr__") 231, val := PySem.Value.builtin "_frozen_importlib.ModuleSpec.__repr__#opaque" }, { hash := PySem.PyData.keyHash P (PySem.Str.ofString "__eq__"), key := PySem.Value.str (PySem.Str.ofString "__eq__") 232, val := PySem.Value.builtin "_frozen_importlib.ModuleSpec.__eq__#opaque" }, { hash := PySem.PyData.keyHash P (PySem.Str.ofString "cached"), key := PySem.Value.str (PySem.Str.ofString "cached") 233, val := PySem.Value.builtin "_frozen_importlib.ModuleSpec.cached#opaque" }, { hash := PySem.PyData.keyHash P (PySem.Str.ofString "parent"), key := PySem.Value.str (PySem.Str.ofString "parent") 234, val := PySem.Value.builtin "_frozen_importlib.ModuleSpec.parent#opaque" }, { hash := PySem.PyData.keyHash P (PySem.Str.ofString "has_location"), key := PySem.Value.str (PySem.Str.ofString "has_location") 235, val := PySem.Value.builtin "_frozen_importlib.ModuleSpec.has_location#opaque" }, { hash := PySem.PyData.keyHash P (PySem.Str.ofString "__static_attributes__"), key := PySem.Value.str (PySem.Str.ofString "__static_attributes__") 236, val := PySem.Value.ref 23 }, { hash := PySem.PyData.keyHash P (PySem.Str.ofString "__dict__"), key := PySem.Value.str (PySem.Str.ofString "__dict__") 238, val := PySem.Value.ref 24 }, { hash := PySem.PyData.keyHash P (PySem.Str.ofString "__weakref__"), key := PySem.Value.str (PySem.Str.ofString "__weakref__") 240, val := PySem.Value.ref 25 }, { hash := PySem.PyData.keyHash P (PySem.Str.ofString "__hash__"), key := PySem.Value.str (PySem.Str.ofString "__hash__") 241, val := PySem.Value.none }] 13 } : PySem.Obj),
({ cls := PySem.Value.type "type", data := PySem.Data.cls { name := PySem.Str.ofString "ModuleSpec", bases := [PySem.Value.type "object"], mro := [PySem.Value.ref 22, PySem.Value.type "object"], ns := 21, qualname := PySem.Str.ofString "ModuleSpec" } } : PySem.Obj),
({ cls := PySem.Value.type "tuple", data := PySem.Data.seq #[PySem.Value.str (PySem.Str.ofString "_cached") 219, PySem.Value.str (PySem.Str.ofString "_set_fileattr") 220, PySem.Value.str (PySem.Str.ofString "_uninitialized_submodules") 221, PySem.Value.str (PySem.Str.ofString "loader") 222, PySem.Value.str (PySem.Str.ofString "loader_state") 223, PySem.Value.str (PySem.Str.ofString "name") 224, PySem.Value.str (PySem.Str.ofString "origin") 225, PySem.Value.str (PySem.Str.ofString "submodule_search_locations") 226] } : PySem.Obj),
({ cls := PySem.Value.type "getset_descriptor", data := PySem.Data.fields #[PySem.Value.str (PySem.Str.ofString "__dict__") 237, PySem.Value.ref 22, PySem.Value.builtin "function.__dict__", PySem.Value.builtin "function.__dict__#set"] } : PySem.Obj),
({ cls := PySem.Value.type "getset_descriptor", data := PySem.Data.fields #[PySem.Value.str (PySem.Str.ofString "__weakref__") 239, PySem.Value.ref 22, PySem.Value.builtin "ExceptionGroup.__weakref__", PySem.Value.none] } : PySem.Obj),
({ cls := PySem.Value.ref 22, dict := Option.some 20 } : PySem.Obj),
({ cls := PySem.Value.none, data := PySem.Data.seq #[PySem.Value.int 11 0, PySem.Value.str { cps := #[6, 247, 8, 95, 95, 110, 97, 109, 101, 95, 95, 6, 246, 4, 95, 115, 114, 101, 6, 248, 7, 95, 95, 100, 111, 99, 95, 95, 0, 6, 250, 11, 95, 95, 112, 97, 99, 107, 97, 103, 101, 95, 95, 6, 249, 0, 6, 251, 10, 95, 95, 108, 111, 97, 100, 101, 114, 95, 95, 4, 0, 0, 14, 6, 252, 8, 95, 95, 115, 112, 101, 99, 95, 95, 4, 0, 0, 26, 6, 253, 7, 99, 111, 109, 112, 105, 108, 101, 9, 12, 95, 115, 114, 101, 46, 99, 111, 109, 112, 105, 108, 101, 6, 254, 8, 116, 101, 109, 112, 108, 97, 116, 101, 9, 13, 95, 115, 114, 101, 46, 116, 101, 109, 112, 108, 97, 116, 101, 6, 255, 11, 103, 101, 116, 99, 111, 100, 101, 115, 105, 122, 101, 9, 16, 95, 115, 114, 101, 46, 103, 101, 116, 99, 111, 100, 101, 115, 105, 122, 101, 6, 256, 13, 97, 115, 99, 105, 105, 95, 105, 115, 99, 97, 115, 101, 100, 9, 18, 95, 115, 114, 101, 46, 97, 115, 99, 105, 105, 95, 105, 115, 99, 97, 115, 101, 100, 6, 257, 15, 117, 110, 105, 99, 111, 100, 101, 95, 105, 115, 99, 97, 115, 101, 100, 9, 20, 95, 115, 114, 101, 46, 117, 110, 105, 99, 111, 100, 101, 95, 105, 115, 99, 97, 115, 101, 100, 6, 258, 13, 97, 115, 99, 105, 105, 95, 116, 111, 108, 111, 119, 101, 114, 9, 18, 95, 115, 114, 101, 46, 97, 115, 99, 105, 105, 95, 116, 111, 108, 111, 119, 101, 114, 6, 259, 15, 117, 110, 105, 99, 111, 100, 101, 95, 116, 111, 108, 111, 119, 101, 114, 9, 20, 95, 115, 114, 101, 46, 117, 110, 105, 99, 111, 100, 101, 95, 116, 111, 108, 111, 119, 101, 114, 6, 261, 5, 77, 65, 71, 73, 67, 4, 260, 0, 20230612, 6, 263, 8, 67, 79, 68, 69, 83, 73, 90, 69, 4, 262, 0, 4, 6, 265, 9, 77, 65, 88, 82, 69, 80, 69, 65, 84, 4, 264, 0, 4294967295, 6, 267, 9, 77, 65, 88, 71, 82, 79, 85, 80, 83, 4, 266, 0, 1073741823, 6, 269, 9, 99, 111, 112, 121, 114, 105, 103, 104, 116, 6, 268, 53, 32, 83, 82, 69, 32, 50, 46, 50, 46, 50, 32, 67, 111, 112, 121, 114, 105, 103, 104, 116, 32, 40, 99, 41, 32, 49, 57, 57, 55, 45, 50, 48, 48, 50, 32, 98, 121, 32, 83, 101, 99, 114, 101, 116, 32, 76, 97, 98, 115, 32, 65, 66, 32] } 0, PySem.Value.bool Bool.true, PySem.Value.bool Bool.false, PySem.Value.str (PySem.Str.ofString "_sre") 271] } : PySem.Obj)]
noncomputable def o0 (P : PySem.Params) (a : Nat) : PySem.Obj := (t0L P).getD a default
noncomputable def taL (P : PySem.Params) : List PySem.Obj := [o0 P 0,
o0 P 1,
o0 P 2,
o0 P 3,
o0 P 4,
o0 P 5,
o0 P 6,
o0 P 7,
o0 P 8,
o0 P 9,
o0 P 10,
o0 P 11,
o0 P 12,
o0 P 13,
o0 P 14,
o0 P 15,
o0 P 16,
o0 P 17,
o0 P 18,
o0 P 19,
o0 P 20,
o0 P 21,
o0 P 22,
o0 P 23,
o0 P 24,
o0 P 25,
o0 P 26,
o0 P 27,
({ cls := PySem.Value.type "tuple", data := PySem.Data.seq #[] } : PySem.Obj),
({ cls := PySem.Value.none, data := PySem.Data.fields #[] } : PySem.Obj),
({ cls := PySem.Value.type "code", data := PySem.Data.fields #[PySem.Value.str (PySem.Str.ofString "<module>") 277, PySem.Value.str (PySem.Str.ofString "<module>") 278, PySem.Value.str (PySem.Str.ofString "/claim/cut.py") 279, PySem.Value.int 1 0, PySem.Value.int 0 0, PySem.Value.int 0 0, PySem.Value.int 0 0, PySem.Value.int 0 0, PySem.Value.ref 28, PySem.Value.bool Bool.false, PySem.Value.int 276 0, PySem.Value.ref 29, PySem.Value.none, PySem.Value.none, PySem.Value.none, PySem.Value.none, PySem.Value.int 280 0, PySem.Value.int 1 0, PySem.Value.str (PySem.Str.ofString "/claim/cut.py") 281] } : PySem.Obj),
({ cls := PySem.Value.type "frame", slots := #[Option.some (PySem.Value.ref 30), Option.some (PySem.Value.ref 3), Option.some (PySem.Value.ref 3), Option.none, Option.some (PySem.Value.str (PySem.Str.ofString "__main__") 164), Option.none, Option.some (PySem.Value.ref 0)] } : PySem.Obj)]
noncomputable def tbL : PySem.Params → List PySem.Obj := by
  refine (?f : ∀ (a36 : PySem.Arguments) (b36 : List PySem.Stmt) (c36 : PySem.Scope) (_ : defAt bd 1 = some (a36, b36, c36)), ∀ (a43 : PySem.Arguments) (b43 : List PySem.Stmt) (c43 : PySem.Scope) (_ : defAt bd 3 = some (a43, b43, c43)), ∀ (a57 : PySem.Arguments) (b57 : List PySem.Stmt) (c57 : PySem.Scope) (_ : metAt bd 5 0 = some (a57, b57, c57)), ∀ (a76 : PySem.Arguments) (b76 : List PySem.Stmt) (c76 : PySem.Scope) (_ : metAt bd 7 0 = some (a76, b76, c76)), ∀ (a83 : PySem.Arguments) (b83 : List PySem.Stmt) (c83 : PySem.Scope) (_ : metAt bd 7 1 = some (a83, b83, c83)), ∀ (a90 : PySem.Arguments) (b90 : List PySem.Stmt) (c90 : PySem.Scope) (_ : metAt bd 7 2 = some (a90, b90, c90)), ∀ (a102 : PySem.Arguments) (b102 : List PySem.Stmt) (c102 : PySem.Scope) (_ : defAt bd 8 = some (a102, b102, c102)), ∀ (a109 : PySem.Arguments) (b109 : List PySem.Stmt) (c109 : PySem.Scope) (_ : defAt bd 10 = some (a109, b109, c109)), ∀ (a116 : PySem.Arguments) (b116 : List PySem.Stmt) (c116 : PySem.Scope) (_ : defAt bd 12 = some (a116, b116, c116)), ∀ (a123 : PySem.Arguments) (b123 : List PySem.Stmt) (c123 : PySem.Scope) (_ : defAt bd 14 = some (a123, b123, c123)), ∀ (a130 : PySem.Arguments) (b130 : List PySem.Stmt) (c130 : PySem.Scope) (_ : defAt bd 15 = some (a130, b130, c130)), ∀ (a137 : PySem.Arguments) (b137 : List PySem.Stmt) (c137 : PySem.Scope) (_ : defAt bd 16 = some (a137, b137, c137)), ∀ (a144 : PySem.Arguments) (b144 : List PySem.Stmt) (c144 : PySem.Scope) (_ : defAt bd 17 = some (a144, b144, c144)), ∀ (a151 : PySem.Arguments) (b151 : List PySem.Stmt) (c151 : PySem.Scope) (_ : defAt bd 18 = some (a151, b151, c151)), PySem.Params → List PySem.Obj) ?a36 ?b36 ?c36 ?h36 ?a43 ?b43 ?c43 ?h43 ?a57 ?b57 ?c57 ?h57 ?a76 ?b76 ?c76 ?h76 ?a83 ?b83 ?c83 ?h83 ?a90 ?b90 ?c90 ?h90 ?a102 ?b102 ?c102 ?h102 ?a109 ?b109 ?c109 ?h109 ?a116 ?b116 ?c116 ?h116 ?a123 ?b123 ?c123 ?h123 ?a130 ?b130 ?c130 ?h130 ?a137 ?b137 ?c137 ?h137 ?a144 ?b144 ?c144 ?h144 ?a151 ?b151 ?c151 ?h151
  case h36 => exact rfl
  case h43 => exact rfl
  case h57 => exact rfl
  case h76 => exact rfl
  case h83 => exact rfl
  case h90 => exact rfl
  case h102 => exact rfl
  case h109 => exact rfl
  case h116 => exact rfl
  case h123 => exact rfl
  case h130 => exact rfl
  case h137 => exact rfl
  case h144 => exact rfl
  case h151 => exact rfl
  case f => exact fun a36 b36 c36 _ a43 b43 c43 _ a57 b57 c57 _ a76 b76 c76 _ a83 b83 c83 _ a90 b90 c90 _ a102 b102 c102 _ a109 b109 c109 _ a116 b116 c116 _ a123 b123 c123 _ a130 b130 c130 _ a137 b137 c137 _ a144 b144 c144 _ a151 b151 c151 _ => fun P =>
[o0 P 0,
o0 P 1,
hob P 2,
({ cls := PySem.Value.type "dict", data := PySem.Data.dict #[{ hash := PySem.PyData.keyHash P (PySem.Str.ofString "__name__"), key := PySem.Value.str (PySem.Str.ofString "__name__") 165, val := PySem.Value.str (PySem.Str.ofString "re") 494 }, { hash := PySem.PyData.keyHash P (PySem.Str.ofString "__doc__"), key := PySem.Value.str (PySem.Str.ofString "__doc__") 166, val := PySem.Value.none }, { hash := PySem.PyData.keyHash P (PySem.Str.ofString "__package__"), key := PySem.Value.str (PySem.Str.ofString "__package__") 167, val := PySem.Value.none }, { hash := PySem.PyData.keyHash P (PySem.Str.ofString "__loader__"), key := PySem.Value.str (PySem.Str.ofString "__loader__") 168, val := PySem.Value.builtin "__main__.__loader__#opaque" }, { hash := PySem.PyData.keyHash P (PySem.Str.ofString "__spec__"), key := PySem.Value.str (PySem.Str.ofString "__spec__") 169, val := PySem.Value.none }, { hash := PySem.PyData.keyHash P (PySem.Str.ofString "__annotations__"), key := PySem.Value.str (PySem.Str.ofString "__annotations__") 170, val := PySem.Value.ref 6 }, { hash := PySem.PyData.keyHash P (PySem.Str.ofString "__builtins__"), key := PySem.Value.str (PySem.Str.ofString "__builtins__") 171, val := PySem.Value.ref 4 }, { hash := PySem.PyData.keyHash P (PySem.Str.ofString "__file__"), key := PySem.Value.str (PySem.Str.ofString "__file__") 173, val := PySem.Value.str (PySem.Str.ofString "/claim/cut.py") 172 }, { hash := PySem.PyData.keyHash P (PySem.Str.ofString "__cached__"), key := PySem.Value.str (PySem.Str.ofString "__cached__") 174, val := PySem.Value.none }, { hash := PySem.PyData.keyHash P (PySem.Str.ofString "_sre"), key := PySem.Value.str (PySem.Str.ofString "_sre") 275, val := PySem.Value.ref 12 }, { hash := PySem.PyData.keyHash P (PySem.Str.ofString "_wall"), key := PySem.Value.str (PySem.Str.ofString "_wall") 288, val := PySem.Value.ref 38 }, { hash := PySem.PyData.keyHash P (PySem.Str.ofString "_plain_name"), key := PySem.Value.str (PySem.Str.ofString "_plain_name") 299, val := PySem.Value.ref 45 }, { hash := PySem.PyData.keyHash P (PySem.Str.ofString "ABCMeta"), key := PySem.Value.str (PySem.Str.ofString "ABCMeta") 325, val := PySem.Value.ref 62 }, { hash := PySem.PyData.keyHash P (PySem.Str.ofString "_ABCLike"), key := PySem.Value.str (PySem.Str.ofString "_ABCLike") 368, val := PySem.Value.ref 95 }, { hash := PySem.PyData.keyHash P (PySem.Str.ofString "_abc_plain_meta"), key := PySem.Value.str (PySem.Str.ofString "_abc_plain_meta") 375, val := PySem.Value.ref 104 }, { hash := PySem.PyData.keyHash P (PySem.Str.ofString "fspath"), key := PySem.Value.str (PySem.Str.ofString "fspath") 387, val := PySem.Value.ref 111 }, { hash := PySem.PyData.keyHash P (PySem.Str.ofString "_check_arg_types"), key := PySem.Value.str (PySem.Str.ofString "_check_arg_types") 400, val := PySem.Value.ref 118 }, { hash := PySem.PyData.keyHash P (PySem.Str.ofString "_get_sep"), key := PySem.Value.str (PySem.Str.ofString "_get_sep") 409, val := PySem.Value.ref 125 }, { hash := PySem.PyData.keyHash P (PySem.Str.ofString "join"), key := PySem.Value.str (PySem.Str.ofString "join") 420, val := PySem.Value.ref 132 }, { hash := PySem.PyData.keyHash P (PySem.Str.ofString "split"), key := PySem.Value.str (PySem.Str.ofString "split") 431, val := PySem.Value.ref 139 }, { hash := PySem.PyData.keyHash P (PySem.Str.ofString "splitroot"), key := PySem.Value.str (PySem.Str.ofString "splitroot") 440, val := PySem.Value.ref 146 }, { hash := PySem.PyData.keyHash P (PySem.Str.ofString "normpath"), key := PySem.Value.str (PySem.Str.ofString "normpath") 455, val := PySem.Value.ref 153 }, { hash := PySem.PyData.keyHash P (PySem.Str.ofString "_twin_re_1"), key := PySem.Value.str (PySem.Str.ofString "_twin_re_1") 493, val := PySem.Value.ref 158 }] 23 } : PySem.Obj),
o0 P 4,
o0 P 5,
o0 P 6,
o0 P 7,
o0 P 8,
o0 P 9,
o0 P 10,
o0 P 11,
o0 P 12,
o0 P 13,
o0 P 14,
o0 P 15,
o0 P 16,
o0 P 17,
o0 P 18,
o0 P 19,
o0 P 20,
o0 P 21,
o0 P 22,
o0 P 23,
o0 P 24,
o0 P 25,
o0 P 26,
o0 P 27,
({ cls := PySem.Value.type "tuple", data := PySem.Data.seq #[] } : PySem.Obj),
({ cls := PySem.Value.none, data := PySem.Data.fields #[PySem.Value.int 2 0, PySem.Value.int 0 0, PySem.Value.ref 37, PySem.Value.int 6 0, PySem.Value.int 0 0, PySem.Value.ref 44, PySem.Value.int 12 0, PySem.Value.int 0 0, PySem.Value.ref 51, PySem.Value.int 17 0, PySem.Value.int 0 0, PySem.Value.ref 70, PySem.Value.int 32 0, PySem.Value.int 0 0, PySem.Value.ref 103, PySem.Value.int 36 0, PySem.Value.int 0 0, PySem.Value.ref 110, PySem.Value.int 53 0, PySem.Value.int 0 0, PySem.Value.ref 117, PySem.Value.int 65 0, PySem.Value.int 0 0, PySem.Value.ref 124, PySem.Value.int 70 0, PySem.Value.int 0 0, PySem.Value.ref 131, PySem.Value.int 87 0, PySem.Value.int 0 0, PySem.Value.ref 138, PySem.Value.int 95 0, PySem.Value.int 0 0, PySem.Value.ref 145, PySem.Value.int 109 0, PySem.Value.int 0 0, PySem.Value.ref 152] } : PySem.Obj),
({ cls := PySem.Value.type "code", data := PySem.Data.fields #[PySem.Value.str (PySem.Str.ofString "<module>") 277, PySem.Value.str (PySem.Str.ofString "<module>") 278, PySem.Value.str (PySem.Str.ofString "/claim/cut.py") 279, PySem.Value.int 1 0, PySem.Value.int 0 0, PySem.Value.int 0 0, PySem.Value.int 0 0, PySem.Value.int 0 0, PySem.Value.ref 28, PySem.Value.bool Bool.false, PySem.Value.int 276 0, PySem.Value.ref 29, PySem.Value.none, PySem.Value.none, PySem.Value.none, PySem.Value.none, PySem.Value.int 280 0, PySem.Value.int 1 0, PySem.Value.str (PySem.Str.ofString "/claim/cut.py") 281] } : PySem.Obj),
({ cls := PySem.Value.type "frame", slots := #[Option.some (PySem.Value.ref 30), Option.some (PySem.Value.ref 3), Option.some (PySem.Value.ref 3), Option.none, Option.some (PySem.Value.str (PySem.Str.ofString "__main__") 164), Option.none, Option.some (PySem.Value.ref 0)] } : PySem.Obj),
hob P 32,
({ cls := PySem.Value.none, data := PySem.Data.fields #[] } : PySem.Obj),
hob P 34,
hob P 35,
({ cls := PySem.Value.none, data := PySem.Data.func { name := PySem.Str.ofString "_wall", qualname := PySem.Str.ofString "_wall", params := a36, body := PySem.FuncBody.stmts b36, scope := c36, globals := 0, closure := [], defaults := PySem.Value.none, kwdefaults := PySem.Value.none } } : PySem.Obj),
hob P 37,
hob P 38,
hob P 39,
({ cls := PySem.Value.none, data := PySem.Data.fields #[] } : PySem.Obj),
hob P 41,
hob P 42,
({ cls := PySem.Value.none, data := PySem.Data.func { name := PySem.Str.ofString "_plain_name", qualname := PySem.Str.ofString "_plain_name", params := a43, body := PySem.FuncBody.stmts b43, scope := c43, globals := 0, closure := [], defaults := PySem.Value.none, kwdefaults := PySem.Value.none } } : PySem.Obj),
hob P 44,
hob P 45,
hob P 46,
({ cls := PySem.Value.type "builtin_function_or_method", data := PySem.Data.fields #[PySem.Value.builtin "type.__prepare__", PySem.Value.type "type"] } : PySem.Obj),
({ cls := PySem.Value.type "dict", data := PySem.Data.dict #[{ hash := PySem.PyData.keyHash P (PySem.Str.ofString "__module__"), key := PySem.Value.str (PySem.Str.ofString "__module__") 309, val := PySem.Value.str (PySem.Str.ofString "abc") 300 }, { hash := PySem.PyData.keyHash P (PySem.Str.ofString "__qualname__"), key := PySem.Value.str (PySem.Str.ofString "__qualname__") 311, val := PySem.Value.str (PySem.Str.ofString "ABCMeta") 310 }, { hash := PySem.PyData.keyHash P (PySem.Str.ofString "__firstlineno__"), key := PySem.Value.str (PySem.Str.ofString "__firstlineno__") 313, val := PySem.Value.int 12 312 }, { hash := PySem.PyData.keyHash P (PySem.Str.ofString "register"), key := PySem.Value.str (PySem.Str.ofString "register") 321, val := PySem.Value.ref 59 }, { hash := PySem.PyData.keyHash P (PySem.Str.ofString "__static_attributes__"), key := PySem.Value.str (PySem.Str.ofString "__static_attributes__") 322, val := PySem.Value.ref 60 }] 5 } : PySem.Obj),
({ cls := PySem.Value.type "tuple", data := PySem.Data.seq #[] } : PySem.Obj),
({ cls := PySem.Value.none, data := PySem.Data.fields #[PySem.Value.int 14 0, PySem.Value.int 4 0, PySem.Value.ref 58] } : PySem.Obj),
({ cls := PySem.Value.type "code", data := PySem.Data.fields #[PySem.Value.str (PySem.Str.ofString "ABCMeta") 304, PySem.Value.str (PySem.Str.ofString "ABCMeta") 305, PySem.Value.str (PySem.Str.ofString "/claim/cut.py") 306, PySem.Value.int 12 0, PySem.Value.int 0 0, PySem.Value.int 0 0, PySem.Value.int 0 0, PySem.Value.int 0 0, PySem.Value.ref 49, PySem.Value.bool Bool.false, PySem.Value.int 276 0, PySem.Value.ref 50, PySem.Value.none, PySem.Value.none, PySem.Value.none, PySem.Value.none, PySem.Value.int 307 0, PySem.Value.int 12 0, PySem.Value.str (PySem.Str.ofString "/claim/cut.py") 308] } : PySem.Obj),
({ cls := PySem.Value.type "frame", slots := #[Option.some (PySem.Value.ref 51), Option.some (PySem.Value.ref 3), Option.some (PySem.Value.ref 48), Option.none, Option.some (PySem.Value.str (PySem.Str.ofString "abc") 300), Option.none, Option.some (PySem.Value.ref 0)] } : PySem.Obj),
hob P 53,
({ cls := PySem.Value.none, data := PySem.Data.fields #[] } : PySem.Obj),
hob P 55,
hob P 56,
({ cls := PySem.Value.none, data := PySem.Data.func { name := PySem.Str.ofString "register", qualname := PySem.Str.ofString "ABCMeta.register", params := a57, body := PySem.FuncBody.stmts b57, scope := c57, globals := 0, closure := [], defaults := PySem.Value.none, kwdefaults := PySem.Value.none } } : PySem.Obj),
hob P 58,
hob P 59,
hob P 60,
hob P 61,
hob P 62,
({ cls := PySem.Value.type "super", data := PySem.Data.fields #[PySem.Value.ref 62, PySem.Value.ref 62, PySem.Value.ref 62] } : PySem.Obj),
({ cls := PySem.Value.type "builtin_function_or_method", data := PySem.Data.fields #[PySem.Value.builtin "object.__init_subclass__", PySem.Value.ref 62] } : PySem.Obj),
hob P 65,
({ cls := PySem.Value.type "builtin_function_or_method", data := PySem.Data.fields #[PySem.Value.builtin "type.__prepare__", PySem.Value.type "type"] } : PySem.Obj),
({ cls := PySem.Value.type "dict", data := PySem.Data.dict #[{ hash := PySem.PyData.keyHash P (PySem.Str.ofString "__module__"), key := PySem.Value.str (PySem.Str.ofString "__module__") 335, val := PySem.Value.str (PySem.Str.ofString "collections.abc") 326 }, { hash := PySem.PyData.keyHash P (PySem.Str.ofString "__qualname__"), key := PySem.Value.str (PySem.Str.ofString "__qualname__") 337, val := PySem.Value.str (PySem.Str.ofString "_ABCLike") 336 }, { hash := PySem.PyData.keyHash P (PySem.Str.ofString "__firstlineno__"), key := PySem.Value.str (PySem.Str.ofString "__firstlineno__") 339, val := PySem.Value.int 17 338 }, { hash := PySem.PyData.keyHash P (PySem.Str.ofString "__instancecheck__"), key := PySem.Value.str (PySem.Str.ofString "__instancecheck__") 348, val := PySem.Value.ref 78 }, { hash := PySem.PyData.keyHash P (PySem.Str.ofString "__subclasscheck__"), key := PySem.Value.str (PySem.Str.ofString "__subclasscheck__") 356, val := PySem.Value.ref 85 }, { hash := PySem.PyData.keyHash P (PySem.Str.ofString "register"), key := PySem.Value.str (PySem.Str.ofString "register") 364, val := PySem.Value.ref 92 }, { hash := PySem.PyData.keyHash P (PySem.Str.ofString "__static_attributes__"), key := PySem.Value.str (PySem.Str.ofString "__static_attributes__") 365, val := PySem.Value.ref 93 }] 7 } : PySem.Obj),
({ cls := PySem.Value.type "tuple", data := PySem.Data.seq #[] } : PySem.Obj),
({ cls := PySem.Value.none, data := PySem.Data.fields #[PySem.Value.int 19 0, PySem.Value.int 4 0, PySem.Value.ref 77, PySem.Value.int 25 0, PySem.Value.int 4 0, PySem.Value.ref 84, PySem.Value.int 30 0, PySem.Value.int 4 0, PySem.Value.ref 91] } : PySem.Obj),
({ cls := PySem.Value.type "code", data := PySem.Data.fields #[PySem.Value.str (PySem.Str.ofString "_ABCLike") 330, PySem.Value.str (PySem.Str.ofString "_ABCLike") 331, PySem.Value.str (PySem.Str.ofString "/claim/cut.py") 332, PySem.Value.int 17 0, PySem.Value.int 0 0, PySem.Value.int 0 0, PySem.Value.int 0 0, PySem.Value.int 0 0, PySem.Value.ref 68, PySem.Value.bool Bool.false, PySem.Value.int 276 0, PySem.Value.ref 69, PySem.Value.none, PySem.Value.none, PySem.Value.none, PySem.Value.none, PySem.Value.int 333 0, PySem.Value.int 17 0, PySem.Value.str (PySem.Str.ofString "/claim/cut.py") 334] } : PySem.Obj),
({ cls := PySem.Value.type "frame", slots := #[Option.some (PySem.Value.ref 70), Option.some (PySem.Value.ref 3), Option.some (PySem.Value.ref 67), Option.none, Option.some (PySem.Value.str (PySem.Str.ofString "collections.abc") 326), Option.none, Option.some (PySem.Value.ref 0)] } : PySem.Obj),
hob P 72,
({ cls := PySem.Value.none, data := PySem.Data.fields #[] } : PySem.Obj),
hob P 74,
hob P 75,
({ cls := PySem.Value.none, data := PySem.Data.func { name := PySem.Str.ofString "__instancecheck__", qualname := PySem.Str.ofString "_ABCLike.__instancecheck__", params := a76, body := PySem.FuncBody.stmts b76, scope := c76, globals := 0, closure := [], defaults := PySem.Value.none, kwdefaults := PySem.Value.none } } : PySem.Obj),
hob P 77,
hob P 78,
hob P 79,
({ cls := PySem.Value.none, data := PySem.Data.fields #[] } : PySem.Obj),
hob P 81,
hob P 82,
({ cls := PySem.Value.none, data := PySem.Data.func { name := PySem.Str.ofString "__subclasscheck__", qualname := PySem.Str.ofString "_ABCLike.__subclasscheck__", params := a83, body := PySem.FuncBody.stmts b83, scope := c83, globals := 0, closure := [], defaults := PySem.Value.none, kwdefaults := PySem.Value.none } } : PySem.Obj),
hob P 84,
hob P 85,
hob P 86,
({ cls := PySem.Value.none, data := PySem.Data.fields #[] } : PySem.Obj),
hob P 88,
hob P 89,
({ cls := PySem.Value.none, data := PySem.Data.func { name := PySem.Str.ofString "register", qualname := PySem.Str.ofString "_ABCLike.register", params := a90, body := PySem.FuncBody.stmts b90, scope := c90, globals := 0, closure := [], defaults := PySem.Value.none, kwdefaults := PySem.Value.none } } : PySem.Obj),
hob P 91,
hob P 92,
hob P 93,
hob P 94,
hob P 95,
({ cls := PySem.Value.type "super", data := PySem.Data.fields #[PySem.Value.ref 95, PySem.Value.ref 95, PySem.Value.ref 95] } : PySem.Obj),
({ cls := PySem.Value.type "builtin_function_or_method", data := PySem.Data.fields #[PySem.Value.builtin "object.__init_subclass__", PySem.Value.ref 95] } : PySem.Obj),
hob P 98,
({ cls := PySem.Value.none, data := PySem.Data.fields #[] } : PySem.Obj),
hob P 100,
hob P 101,
({ cls := PySem.Value.none, data := PySem.Data.func { name := PySem.Str.ofString "_abc_plain_meta", qualname := PySem.Str.ofString "_abc_plain_meta", params := a102, body := PySem.FuncBody.stmts b102, scope := c102, globals := 0, closure := [], defaults := PySem.Value.none, kwdefaults := PySem.Value.none } } : PySem.Obj),
hob P 103,
hob P 104,
hob P 105,
({ cls := PySem.Value.none, data := PySem.Data.fields #[] } : PySem.Obj),
hob P 107,
hob P 108,
({ cls := PySem.Value.none, data := PySem.Data.func { name := PySem.Str.ofString "fspath", qualname := PySem.Str.ofString "fspath", params := a109, body := PySem.FuncBody.stmts b109, scope := c109, globals := 0, closure := [], defaults := PySem.Value.none, kwdefaults := PySem.Value.none } } : PySem.Obj),
hob P 110,
hob P 111,
hob P 112,
({ cls := PySem.Value.none, data := PySem.Data.fields #[] } : PySem.Obj),
hob P 114,
hob P 115,
({ cls := PySem.Value.none, data := PySem.Data.func { name := PySem.Str.ofString "_check_arg_types", qualname := PySem.Str.ofString "_check_arg_types", params := a116, body := PySem.FuncBody.stmts b116, scope := c116, globals := 0, closure := [], defaults := PySem.Value.none, kwdefaults := PySem.Value.none } } : PySem.Obj),
hob P 117,
hob P 118,
hob P 119,
({ cls := PySem.Value.none, data := PySem.Data.fields #[] } : PySem.Obj),
hob P 121,
hob P 122,
({ cls := PySem.Value.none, data := PySem.Data.func { name := PySem.Str.ofString "_get_sep", qualname := PySem.Str.ofString "_get_sep", params := a123, body := PySem.FuncBody.stmts b123, scope := c123, globals := 0, closure := [], defaults := PySem.Value.none, kwdefaults := PySem.Value.none } } : PySem.Obj),
hob P 124,
hob P 125,
hob P 126,
({ cls := PySem.Value.none, data := PySem.Data.fields #[] } : PySem.Obj),
hob P 128,
hob P 129,
({ cls := PySem.Value.none, data := PySem.Data.func { name := PySem.Str.ofString "join", qualname := PySem.Str.ofString "join", params := a130, body := PySem.FuncBody.stmts b130, scope := c130, globals := 0, closure := [], defaults := PySem.Value.none, kwdefaults := PySem.Value.none } } : PySem.Obj),
hob P 131,
hob P 132,
hob P 133,
({ cls := PySem.Value.none, data := PySem.Data.fields #[] } : PySem.Obj),
hob P 135,
hob P 136,
({ cls := PySem.Value.none, data := PySem.Data.func { name := PySem.Str.ofString "split", qualname := PySem.Str.ofString "split", params := a137, body := PySem.FuncBody.stmts b137, scope := c137, globals := 0, closure := [], defaults := PySem.Value.none, kwdefaults := PySem.Value.none } } : PySem.Obj),
hob P 138,
hob P 139,
hob P 140,
({ cls := PySem.Value.none, data := PySem.Data.fields #[] } : PySem.Obj),
hob P 142,
hob P 143,
({ cls := PySem.Value.none, data := PySem.Data.func { name := PySem.Str.ofString "splitroot", qualname := PySem.Str.ofString "splitroot", params := a144, body := PySem.FuncBody.stmts b144, scope := c144, globals := 0, closure := [], defaults := PySem.Value.none, kwdefaults := PySem.Value.none } } : PySem.Obj),
hob P 145,
hob P 146,
hob P 147,
({ cls := PySem.Value.none, data := PySem.Data.fields #[] } : PySem.Obj),
hob P 149,
hob P 150,
({ cls := PySem.Value.none, data := PySem.Data.func { name := PySem.Str.ofString "normpath", qualname := PySem.Str.ofString "normpath", params := a151, body := PySem.FuncBody.stmts b151, scope := c151, globals := 0, closure := [], defaults := PySem.Value.none, kwdefaults := PySem.Value.none } } : PySem.Obj),
hob P 152,
hob P 153,
({ cls := PySem.Value.type "list", data := PySem.Data.seq #[PySem.Value.int 14 459, PySem.Value.int 14 460, PySem.Value.int 4 461, PySem.Value.int 1 462, PySem.Value.int 1 463, PySem.Value.int 9 464, PySem.Value.int 0 465, PySem.Value.int 64 466, PySem.Value.int 0 467, PySem.Value.int 1342177280 468, PySem.Value.int 0 469, PySem.Value.int 0 470, PySem.Value.int 0 471, PySem.Value.int 0 472, PySem.Value.int 0 473, PySem.Value.int 17 474, PySem.Value.int 0 475, PySem.Value.int 13 476, PySem.Value.int 11 477, PySem.Value.int 9 478, PySem.Value.int 0 479, PySem.Value.int 64 480, PySem.Value.int 0 481, PySem.Value.int 1342177280 482, PySem.Value.int 0 483, PySem.Value.int 0 484, PySem.Value.int 0 485, PySem.Value.int 0 486, PySem.Value.int 0 487, PySem.Value.int 17 488, PySem.Value.int 1 489, PySem.Value.int 1 490] } : PySem.Obj),
({ cls := PySem.Value.type "dict", data := PySem.Data.dict #[] } : PySem.Obj),
({ cls := PySem.Value.type "tuple", data := PySem.Data.seq #[PySem.Value.none, PySem.Value.none] } : PySem.Obj),
hob P 157,
hob P 158]
noncomputable def ob (P : PySem.Params) (a : Nat) : PySem.Obj := (tbL P).getD a default
noncomputable def tcL (P : PySem.Params) : List PySem.Obj := [ob P 0,
ob P 1,
ob P 2,
({ cls := PySem.Value.type "dict", data := PySem.Data.dict #[{ hash := PySem.PyData.keyHash P (PySem.Str.ofString "__name__"), key := PySem.Value.str (PySem.Str.ofString "__name__") 165, val := PySem.Value.str (PySem.Str.ofString "re") 494 }, { hash := PySem.PyData.keyHash P (PySem.Str.ofString "__doc__"), key := PySem.Value.str (PySem.Str.ofString "__doc__") 166, val := PySem.Value.none }, { hash := PySem.PyData.keyHash P (PySem.Str.ofString "__package__"), key := PySem.Value.str (PySem.Str.ofString "__package__") 167, val := PySem.Value.none }, { hash := PySem.PyData.keyHash P (PySem.Str.ofString "__loader__"), key := PySem.Value.str (PySem.Str.ofString "__loader__") 168, val := PySem.Value.builtin "__main__.__loader__#opaque" }, { hash := PySem.PyData.keyHash P (PySem.Str.ofString "__spec__"), key := PySem.Value.str (PySem.Str.ofString "__spec__") 169, val := PySem.Value.none }, { hash := PySem.PyData.keyHash P (PySem.Str.ofString "__annotations__"), key := PySem.Value.str (PySem.Str.ofString "__annotations__") 170, val := PySem.Value.ref 6 }, { hash := PySem.PyData.keyHash P (PySem.Str.ofString "__builtins__"), key := PySem.Value.str (PySem.Str.ofString "__builtins__") 171, val := PySem.Value.ref 4 }, { hash := PySem.PyData.keyHash P (PySem.Str.ofString "__file__"), key := PySem.Value.str (PySem.Str.ofString "__file__") 173, val := PySem.Value.str (PySem.Str.ofString "/claim/cut.py") 172 }, { hash := PySem.PyData.keyHash P (PySem.Str.ofString "__cached__"), key := PySem.Value.str (PySem.Str.ofString "__cached__") 174, val := PySem.Value.none }, { hash := PySem.PyData.keyHash P (PySem.Str.ofString "_sre"), key := PySem.Value.str (PySem.Str.ofString "_sre") 275, val := PySem.Value.ref 12 }, { hash := PySem.PyData.keyHash P (PySem.Str.ofString "_wall"), key := PySem.Value.str (PySem.Str.ofString "_wall") 288, val := PySem.Value.ref 38 }, { hash := PySem.PyData.keyHash P (PySem.Str.ofString "_plain_name"), key := PySem.Value.str (PySem.Str.ofString "_plain_name") 299, val := PySem.Value.ref 45 }, { hash := PySem.PyData.keyHash P (PySem.Str.ofString "ABCMeta"), key := PySem.Value.str (PySem.Str.ofString "ABCMeta") 325, val := PySem.Value.ref 62 }, { hash := PySem.PyData.keyHash P (PySem.Str.ofString "_ABCLike"), key := PySem.Value.str (PySem.Str.ofString "_ABCLike") 368, val := PySem.Value.ref 95 }, { hash := PySem.PyData.keyHash P (PySem.Str.ofString "_abc_plain_meta"), key := PySem.Value.str (PySem.Str.ofString "_abc_plain_meta") 375, val := PySem.Value.ref 104 }, { hash := PySem.PyData.keyHash P (PySem.Str.ofString "fspath"), key := PySem.Value.str (PySem.Str.ofString "fspath") 387, val := PySem.Value.ref 111 }, { hash := PySem.PyData.keyHash P (PySem.Str.ofString "_check_arg_types"), key := PySem.Value.str (PySem.Str.ofString "_check_arg_types") 400, val := PySem.Value.ref 118 }, { hash := PySem.PyData.keyHash P (PySem.Str.ofString "_get_sep"), key := PySem.Value.str (PySem.Str.ofString "_get_sep") 409, val := PySem.Value.ref 125 }, { hash := PySem.PyData.keyHash P (PySem.Str.ofString "join"), key := PySem.Value.str (PySem.Str.ofString "join") 420, val := PySem.Value.ref 132 }, { hash := PySem.PyData.keyHash P (PySem.Str.ofString "split"), key := PySem.Value.str (PySem.Str.ofString "split") 431, val := PySem.Value.ref 139 }, { hash := PySem.PyData.keyHash P (PySem.Str.ofString "splitroot"), key := PySem.Value.str (PySem.Str.ofString "splitroot") 440, val := PySem.Value.ref 146 }, { hash := PySem.PyData.keyHash P (PySem.Str.ofString "normpath"), key := PySem.Value.str (PySem.Str.ofString "normpath") 455, val := PySem.Value.ref 153 }, { hash := PySem.PyData.keyHash P (PySem.Str.ofString "_twin_re_1"), key := PySem.Value.str (PySem.Str.ofString "_twin_re_1") 493, val := PySem.Value.ref 158 }, { hash := PySem.PyData.keyHash P (PySem.Str.ofString "_special_chars_map"), key := PySem.Value.str (PySem.Str.ofString "_special_chars_map") 641, val := PySem.Value.ref 160 }] 24 } : PySem.Obj),
ob P 4,
ob P 5,
ob P 6,
ob P 7,
ob P 8,
ob P 9,
ob P 10,
ob P 11,
ob P 12,
ob P 13,
ob P 14,
ob P 15,
ob P 16,
ob P 17,
ob P 18,
ob P 19,
ob P 20,
ob P 21,
ob P 22,
ob P 23,
ob P 24,
ob P 25,
ob P 26,
ob P 27,
ob P 28,
ob P 29,
ob P 30,
ob P 31,
ob P 32,
ob P 33,
ob P 34,
ob P 35,
ob P 36,
ob P 37,
ob P 38,
ob P 39,
ob P 40,
ob P 41,
ob P 42,
ob P 43,
ob P 44,
ob P 45,
ob P 46,
ob P 47,
ob P 48,
ob P 49,
ob P 50,
ob P 51,
ob P 52,
ob P 53,
ob P 54,
ob P 55,
ob P 56,
ob P 57,
ob P 58,
ob P 59,
ob P 60,
ob P 61,
ob P 62,
ob P 63,
ob P 64,
ob P 65,
ob P 66,
ob P 67,
ob P 68,
ob P 69,
ob P 70,
ob P 71,
ob P 72,
ob P 73,
ob P 74,
ob P 75,
ob P 76,
ob P 77,
ob P 78,
ob P 79,
ob P 80,
ob P 81,
ob P 82,
ob P 83,
ob P 84,
ob P 85,
ob P 86,
ob P 87,
ob P 88,
ob P 89,
ob P 90,
ob P 91,
ob P 92,
ob P 93,
ob P 94,
ob P 95,
ob P 96,
ob P 97,
ob P 98,
ob P 99,
ob P 100,
ob P 101,
ob P 102,
ob P 103,
ob P 104,
ob P 105,
ob P 106,
ob P 107,
ob P 108,
ob P 109,
ob P 110,
ob P 111,
ob P 112,
ob P 113,
ob P 114,
ob P 115,
ob P 116,
ob P 117,
ob P 118,
ob P 119,
ob P 120,
ob P 121,
ob P 122,
ob P 123,
ob P 124,
ob P 125,
ob P 126,
ob P 127,
ob P 128,
ob P 129,
ob P 130,
ob P 131,
ob P 132,
ob P 133,
ob P 134,
ob P 135,
ob P 136,
ob P 137,
ob P 138,
ob P 139,
ob P 140,
ob P 141,
ob P 142,
ob P 143,
ob P 144,
ob P 145,
ob P 146,
ob P 147,
ob P 148,
ob P 149,
ob P 150,
ob P 151,
ob P 152,
ob P 153,
ob P 154,
ob P 155,
ob P 156,
ob P 157,
ob P 158,
({ cls := PySem.Value.type "bytes_iterator", data := PySem.Data.fields #[PySem.Value.none, PySem.Value.int 24 0] } : PySem.Obj),
hob P 160,
({ cls := PySem.Value.type "dict", data := PySem.Data.dict #[] 2 } : PySem.Obj),
({ cls := PySem.Value.type "tuple", data := PySem.Data.seq #[] } : PySem.Obj),
({ cls := PySem.Value.type "StopIteration", data := PySem.Data.fields #[PySem.Value.ref 162, PySem.Value.none, PySem.Value.none, PySem.Value.none, PySem.Value.bool Bool.false, PySem.Value.none] } : PySem.Obj)]
noncomputable def tiL (P : PySem.Params) : List PySem.Obj := [o0 P 0,
o0 P 1,
o0 P 2,
o0 P 3,
o0 P 4,
o0 P 5,
o0 P 6,
o0 P 7,
o0 P 8,
o0 P 9,
o0 P 10,
({ cls := PySem.Value.type "dict", data := PySem.Data.dict #[{ hash := PySem.PyData.keyHash P (PySem.Str.ofString "__name__"), key := PySem.Value.str (PySem.Str.ofString "__name__") 247, val := PySem.Value.str (PySem.Str.ofString "_sre") 246 }, { hash := PySem.PyData.keyHash P (PySem.Str.ofString "__doc__"), key := PySem.Value.str (PySem.Str.ofString "__doc__") 248, val := PySem.Value.none }, { hash := PySem.PyData.keyHash P (PySem.Str.ofString "__package__"), key := PySem.Value.str (PySem.Str.ofString "__package__") 250, val := PySem.Value.str (PySem.Str.ofString "") 249 }, { hash := PySem.PyData.keyHash P (PySem.Str.ofString "__loader__"), key := PySem.Value.str (PySem.Str.ofString "__loader__") 251, val := PySem.Value.ref 14 }, { hash := PySem.PyData.keyHash P (PySem.Str.ofString "__spec__"), key := PySem.Value.str (PySem.Str.ofString "__spec__") 252, val := PySem.Value.ref 26 }, { hash := PySem.PyData.keyHash P (PySem.Str.ofString "compile"), key := PySem.Value.str (PySem.Str.ofString "compile") 253, val := PySem.Value.builtin "_sre.compile" }, { hash := PySem.PyData.keyHash P (PySem.Str.ofString "template"), key := PySem.Value.str (PySem.Str.ofString "template") 254, val := PySem.Value.builtin "_sre.template" }, { hash := PySem.PyData.keyHash P (PySem.Str.ofString "getcodesize"), key := PySem.Value.str (PySem.Str.ofString "getcodesize") 255, val := PySem.Value.builtin "_sre.getcodesize" }, { hash := PySem.PyData.keyHash P (PySem.Str.ofString "ascii_iscased"), key := PySem.Value.str (PySem.Str.ofString "ascii_iscased") 256, val := PySem.Value.builtin "_sre.ascii_iscased" }, { hash := PySem.PyData.keyHash P (PySem.Str.ofString "unicode_iscased"), key := PySem.Value.str (PySem.Str.ofString "unicode_iscased") 257, val := PySem.Value.builtin "_sre.unicode_iscased" }, { hash := PySem.PyData.keyHash P (PySem.Str.ofString "ascii_tolower"), key := PySem.Value.str (PySem.Str.ofString "ascii_tolower") 258, val := PySem.Value.builtin "_sre.ascii_tolower" }, { hash := PySem.PyData.keyHash P (PySem.Str.ofString "unicode_tolower"), key := PySem.Value.str (PySem.Str.ofString "unicode_tolower") 259, val := PySem.Value.builtin "_sre.unicode_tolower" }, { hash := PySem.PyData.keyHash P (PySem.Str.ofString "MAGIC"), key := PySem.Value.str (PySem.Str.ofString "MAGIC") 261, val := PySem.Value.int 20230612 260 }, { hash := PySem.PyData.keyHash P (PySem.Str.ofString "CODESIZE"), key := PySem.Value.str (PySem.Str.ofString "CODESIZE") 263, val := PySem.Value.int 4 262 }, { hash := PySem.PyData.keyHash P (PySem.Str.ofString "MAXREPEAT"), key := PySem.Value.str (PySem.Str.ofString "MAXREPEAT") 265, val := PySem.Value.int 4294967295 264 }, { hash := PySem.PyData.keyHash P (PySem.Str.ofString "MAXGROUPS"), key := PySem.Value.str (PySem.Str.ofString "MAXGROUPS") 267, val := PySem.Value.int 1073741823 266 }, { hash := PySem.PyData.keyHash P (PySem.Str.ofString "copyright"), key := PySem.Value.str (PySem.Str.ofString "copyright") 269, val := PySem.Value.str (PySem.Str.ofString " SRE 2.2.2 Copyright (c) 1997-2002 by Secret Labs AB ") 268 }] 17 } : PySem.Obj),
o0 P 12,
o0 P 13,
o0 P 14,
o0 P 15,
o0 P 16,
o0 P 17,
o0 P 18,
o0 P 19,
o0 P 20,
o0 P 21,
o0 P 22,
o0 P 23,
o0 P 24,
o0 P 25,
o0 P 26,
o0 P 27]
noncomputable def tCode : PySem.Value := PySem.Value.ref 30
noncomputable abbrev tEnv : PySem.Env := { scope := PySem.Challenge.pw_rx0110_01.main.scope, locals := mainNs, globals := mainNs, cells := [], code := tCode, frame := some 31 }
noncomputable abbrev tBody : List PySem.Stmt := behindTheImports PySem.Challenge.rw_rx0110_01.row.prog
noncomputable abbrev tC : PySem.Code := .body tBody tEnv
noncomputable abbrev tPosQ : PySem.Pos := { line := 0, col := 0, endLine := 0, endCol := 0 }
noncomputable abbrev tPosA : PySem.Pos := { line := 0, col := 0, endLine := 0, endCol := 0 }
noncomputable abbrev tPosK : PySem.Pos := { line := 0, col := 0, endLine := 0, endCol := 0 }
noncomputable abbrev tPosB : PySem.Pos := { line := 135, col := 0, endLine := 135, endCol := 8 }
noncomputable abbrev tPosC : PySem.Pos := { line := 136, col := 0, endLine := 136, endCol := 18 }

theorem hdAs_eq : ∀ P, hdAs = (hd.heap_39 P).map (·.1) := fun P => by kernel_rfl
noncomputable abbrev hdHook : Hook := kmHook hd.heap_39 hdAs hdAs_eq [172]
abbrev hdRow : OpenRow := PySem.Challenge.rw_rx0110_01.row
abbrev hdLoose : List Str := [Str.ofString "_twin_re_1", Str.ofString "_special_chars_map"]
noncomputable abbrev hdXt (s : Shared) : Bool := xlAt hd.view_39 [] s && recOk (RowW.records (OpenRow.toRowW hdRow)) s
noncomputable abbrev tAnn : Option PySem.Value := Option.some (PySem.Value.ref 6)
theorem cut_start : (start (opening hdRow.prog)).1 = ⟨⟨#[], {}⟩, #[], {}, 1, (start (opening hdRow.prog)).1.os⟩ := by kernel_rfl
theorem cut_open : ∀ w : World, impRunT treeTable (opening hdRow.prog) w 2541 (stT [] 0 1 (start (opening hdRow.prog)).1.os) (start (opening hdRow.prog)).2 = some (stT (tiL w.params) 28 276 (start (opening hdRow.prog)).1.os) := fun w => by kernel_rfl
theorem cut_fence : ∀ (w : World) (os : OsState), (fenceModules? hdRow.prog (stT (tiL w.params) 28 276 os).abs).map (fun s => (s.heap, s.gens, s.drawn, s.toks)) = some (absHeap (treeOf (t0L w.params)) 28 {}, #[], {}, 276) := fun w os => by kernel_rfl
theorem cut_size : ∀ w : World, ((absHeap (treeOf (t0L w.params)) 28 {}).isNs mainGlobals, (absHeap (treeOf (t0L w.params)) 28 {}).nsMap mainGlobals "__annotations__") = (true, tAnn) := fun w => by kernel_rfl
theorem cut_pre : ∀ (w : World) (os : OsState), topGoT treeTable hdRow.prog w 28 tAnn 12 (stT (t0L w.params) 28 276 os) (topStub hdRow.prog) = some ((stT (taL w.params) 32 282 os), ⟨denote treeTable tC, tC, tPosA, [topFrame tPosQ]⟩) := fun w os => by kernel_rfl
theorem cut_block : ∀ (w : World) (os : OsState), segRunT treeTable hdRow.prog w 28 tAnn 1 1 (stT (taL w.params) 32 282 os) (blockOf tBody tEnv tC tPosA [topFrame tPosQ]) = some (.next, (stT (taL w.params) 32 282 os), tC, tPosK) := fun w os => by kernel_rfl
theorem cut_run : ∀ (w : World) (os : OsState), segRunT treeTable hdRow.prog w 28 tAnn 1 980 (stT (taL w.params) 32 282 os) (piecesOf (tBody.take 20) tEnv tC tPosK [topFrame tPosQ]) = some (.next, (stT (tbL w.params) 159 496 os), tC, tPosB) := fun w os => by kernel_rfl
noncomputable abbrev AskP (w : World) (os : OsState) : Prop := segRunT treeTable hdRow.prog w 28 tAnn 1 1253 (stT (tbL w.params) 159 496 os) (piecesOf ((tBody.drop 20).take 1) tEnv tC tPosB [topFrame tPosQ]) = some (.next, (stT (tcL w.params) 164 642 os), tC, tPosC)
theorem ask_ff : ∀ (w : World) (os : OsState), AskP ((w.withFollow "special-get-raises" false).withFollow "comprehension-iter-twice" false) os := fun w os => by kernel_rfl
theorem ask_ft : ∀ (w : World) (os : OsState), AskP ((w.withFollow "special-get-raises" true).withFollow "comprehension-iter-twice" false) os := fun w os => by kernel_rfl
theorem ask_tf : ∀ (w : World) (os : OsState), AskP ((w.withFollow "special-get-raises" false).withFollow "comprehension-iter-twice" true) os := fun w os => by kernel_rfl
theorem ask_tt : ∀ (w : World) (os : OsState), AskP ((w.withFollow "special-get-raises" true).withFollow "comprehension-iter-twice" true) os := fun w os => by kernel_rfl
theorem ask_f (w : World) (os : OsState) : AskP (w.withFollow "comprehension-iter-twice" false) os := byRow2 "special-get-raises" (P := fun w => AskP (w.withFollow "comprehension-iter-twice" false) os) (fun w => ask_ff w os) (fun w => ask_ft w os) w
theorem ask_t (w : World) (os : OsState) : AskP (w.withFollow "comprehension-iter-twice" true) os := byRow2 "special-get-raises" (P := fun w => AskP (w.withFollow "comprehension-iter-twice" true) os) (fun w => ask_tf w os) (fun w => ask_tt w os) w
theorem cut_end : ∀ (w : World) (os : OsState), (topRunT treeTable hdRow.prog w 28 tAnn 295 (stT (tcL w.params) 164 642 os) (restOf ((tBody.drop 20).drop 1) tEnv tC tPosC [topFrame tPosQ])).bind (fun s₁ => topEnd hdRow.prog hd.view_39 hdLoose hdXt hdHook.obs (absHeap (treeOf (t0L w.params)) 28 {}) s₁.abs) = some (openGood hd.view_39 hdLoose, hdHook.val w) := fun w os => by kernel_rfl
theorem left : LeftO hdRow.prog hd.view_39 hdLoose hdXt hdHook.obs hdHook.val (12 + (1 + (980 + (1253 + 295)))) :=
  left_of_cut (l1 := tBody.take 20) (l2 := (tBody.drop 20).take 1) (l3 := (tBody.drop 20).drop 1) (by rw [List.take_append_drop, List.take_append_drop]) cut_start rfl cut_open cut_fence cut_size cut_pre cut_block cut_run (fun w os => byRow2 "comprehension-iter-twice" (P := fun w => AskP w os) (fun w => ask_f w os) (fun w => ask_t w os) w) cut_end
local macro_rules | `(tactic| omega) => `(tactic| lia)
local macro_rules | `(tactic| walk_at $s:str) => `(tactic| k_extra $s)
local macro_rules | `(tactic| size_fits) => `(tactic| (rw [sizeLine_eq]; omega))
section
open PySem PySem.W PyProof.Rows PySem.Calls
theorem int_nn (k : Nat) : ¬ ((k : Int) < 0) := Int.not_lt.mpr (Int.natCast_nonneg k)
theorem clamp_id {k n : Nat} (h : k ≤ n) : max (0 : Int) (min (k : Int) (n : Int)) = (k : Int) := by
  rw [Int.min_eq_left (Int.ofNat_le.mpr h), Int.max_eq_right (Int.natCast_nonneg _)]
theorem clamp_min (k n : Nat) : max (0 : Int) (min (k : Int) (n : Int)) = max (0 : Int) (min ((min k n : Nat) : Int) (n : Int)) := by
  rcases Nat.le_total k n with h | h
  · rw [Nat.min_eq_left h]
  · rw [Nat.min_eq_right h, Int.min_eq_right (Int.ofNat_le.mpr h), Int.min_self]
theorem max0_nat (i : Nat) : (max (0 : Int) (i : Int)).toNat = i := by
  rw [Int.max_eq_right (Int.natCast_nonneg _)]; rfl
theorem neg1_nat (n : Nat) : ((-1 : Int) + (n : Nat)).toNat = n - 1 := by
  rw [Int.add_comm]; exact Int.toNat_sub n 1
/-- what a def does, called from any frame: the ledger before, the arguments; Ro says the ledger and the value after -/
noncomputable def Does (prog : Program) (w : World) (K : Frag) (p : Program) (loose : List Str) (mean : ExcName → Option Value) (mg mb : Str → Option Value) (f : Addr) (dep : Nat)
    (news : List (Addr × Obj)) (vs : List Value) (Ro : List (Addr × Obj) → Value → Prop) : Prop :=
  ∀ (dp un : Nat) (gd : Option (List Code)) (cn : Str) (cs : Scope) (a : Addr) (ccd : Value) (cl : List (Str × Addr)) (outer : List Env) (A₀ : Around) (base h₀ : Heap) (L : Addr) (m : Str → Option Value) (s : Shared) (Q E : Value → Shared → Prop),
    Below A₀ base outer h₀ → Fr h₀ L s.heap m → K.In h₀ → News h₀ L s.heap news → Top p loose mean mg mb h₀ → cs.kind = .function → dp + dep < recursionLimit → un + 8 * dep < cLine →
    (∀ (news' : List (Addr × Obj)) (r : Value) (h' : Heap) (tk' : Nat), Ro news' r → Fr h₀ L h' m → News h₀ L h' news' → Q r { s with heap := h', toks := tk' }) →
      wpAny (model prog w) (ktrTop dp un gd cn cs L a ccd cl outer) (call (.ref f) vs) Q E s
section
variable {prog : Program} {w : World} {K : Frag} {p : Program} {loose : List Str} {mean : ExcName → Option Value} {mg mb : Str → Option Value} {f : Addr} {dep : Nat} {news : List (Addr × Obj)} {vs : List Value} {Ro : List (Addr × Obj) → Value → Prop}
theorem Does.use {dp un : Nat} {gd : Option (List Code)} {cn : Str} {cs : Scope} {a : Addr} {ccd : Value} {cl : List (Str × Addr)} {outer : List Env} {A₀ : Around} {base h₀ : Heap} {L : Addr} {m : Str → Option Value} {s : Shared} {Q E : Value → Shared → Prop}
    (B : Below A₀ base outer h₀) (F : Fr h₀ L s.heap m) (X : K.In h₀) (N : News h₀ L s.heap news) (T : Top p loose mean mg mb h₀) (hk : cs.kind = .function) (hd : dp + dep < recursionLimit) (hu : un + 8 * dep < cLine)
    (D : Does prog w K p loose mean mg mb f dep news vs Ro)
    (h : ∀ (news' : List (Addr × Obj)) (r : Value) (h' : Heap) (tk' : Nat), Ro news' r → Fr h₀ L h' m → News h₀ L h' news' → Q r { s with heap := h', toks := tk' }) :
    wpAny (model prog w) (ktrTop dp un gd cn cs L a ccd cl outer) (call (.ref f) vs) Q E s := D dp un gd cn cs a ccd cl outer A₀ base h₀ L m s Q E B F X N T hk hd hu h
end
end

section
open PySem PySem.W PyProof.Rows PySem.Calls
theorem entry_isc : entryFor table "issubclass" = some Builtin.«issubclass» := by first | exact entryFor_of_fast (by kernel_rfl) | exact entryFor_of_tree (by kernel_rfl)
theorem entry_iscn : entryFor table "issubclass.nested" = some Builtin.«issubclass.nested» := by first | exact entryFor_of_fast (by kernel_rfl) | exact entryFor_of_tree (by kernel_rfl)
theorem kind_isc : builtinKind "issubclass" = none := by decide +kernel
theorem kind_iscn : builtinKind "issubclass.nested" = none := by decide +kernel
theorem plain_isc : plainId "issubclass" = true := by decide +kernel
theorem plain_iscn : plainId "issubclass.nested" = true := by decide +kernel
theorem args_isc (a b : Value) : argsOk "issubclass" ⟨[a, b], []⟩ := by unfold argsOk; kernel_rfl
theorem sub_str_str : isSubtype (.type "str") (.type "str") = pure true := by rw [isSubtype_type]; kernel_rfl
section
variable {prog : Program} {w : World} {A : Around} {E : Value → Shared → Prop} {s : Shared}
theorem isc_one {R : Result → Shared → Prop} {tk : Tok} (h : R (.ok (.ret (.bool true))) s) :
    codeAny (model prog w) A (.call (.builtin "issubclass.nested") ⟨[.type "str", .type "str", .int 1 tk], []⟩) R s := by
  refine codeAny_call_builtin plain_iscn entry_iscn ?_
  have f1 := sub_str_str
  have f2 : typeOf (.type "str") = pure (.type "type") := rfl
  obtain ⟨hh, g, d, t, os⟩ := s
  have hk := kind_iscn
  have ha : Manifest.signature? "issubclass.nested" = none := by kernel_rfl
  simp only [checkBuiltinCall, hk, ha]
  repeat (any_goals (first | assumption | wp_step))
theorem isc_str {Q : Value → Shared → Prop} {tp : Addr} (htp : s.heap.get? tp = some { cls := .type "tuple", data := .seq [Value.type "str", Value.type "bytes"].toArray }) (h : Q (.bool true) s) :
    wpAny (model prog w) A (call (.builtin "issubclass") [.type "str", .ref tp]) Q E s := by
  refine kmb_tree kind_isc plain_isc entry_isc (args_isc _ _) ?_
  obtain ⟨hh, g, d, t, os⟩ := s
  have f1 := F.isi_sub_tuple
  repeat (any_goals (first | assumption | wp_step))
  refine ⟨plainId_quiet plain_iscn _, codeAny_builtin entry_iscn ?_⟩
  rw [Around.under_plainId plain_iscn _]
  have hT2 : (⟨hh, g, d, t, os⟩ : Shared).TypeIs (.ref tp) "tuple" := ⟨_, htp, rfl⟩
  repeat (any_goals (first | assumption | wp_step))
  refine isc_one ?_
  repeat (any_goals (first | assumption | wp_step))
end
end

section
open PySem PySem.W PyProof.Rows PySem.Calls
section
variable {prog : Program} {w : World} {A : Around} {E : Value → Shared → Prop} {s : Shared} {h₀ : Heap} {L D : Addr} {m : Str → Option Value} {nw nw' : List (Addr × Obj)} {vs : List Value} {ss : List Str} {n : Nat}
theorem lst_at (N : News h₀ L s.heap nw) (hm : (D, listOf vs.toArray n) ∈ nw) : s.heap.IsList D vs.toArray := ⟨_, (N _ hm).1, rfl, n, rfl⟩
theorem tru_strs {Q : Bool → Shared → Prop} (N : News h₀ L s.heap nw) (hm : (D, listOf vs.toArray n) ∈ nw) (hi : StrsAre vs ss) (hb : ss.length ≤ 1000000)
    (h : Q (!ss.isEmpty) { s with toks := s.toks + 1 + 1 }) : wpAny (model prog w) A (truthy (.ref D)) Q E s :=
  wpAny_truthy_list (lst_at N hm) (by rw [List.size_toArray, hi.len_eq]; lia) (by
    have e : (!vs.toArray.isEmpty) = !ss.isEmpty := by cases hi <;> simp
    rw [e]; exact h)
theorem strs_last (hi : StrsAre vs ss) (hne : ss ≠ []) : ∃ t, vs = vs.dropLast ++ [.str (ss.getLast hne) t] ∧ StrsAre vs.dropLast ss.dropLast := by
  induction hi with
  | nil => exact absurd rfl hne
  | cons y t r ih =>
    cases r with
    | nil => exact ⟨t, rfl, .nil⟩
    | cons y' t' r' =>
      refine Classical.byContradiction fun hng9 => ?_
      obtain ⟨u, h1, h2⟩ := ih (by simp)
      refine hng9 ?_
      clear hng9
      refine ⟨u, ?_, .cons _ _ h2⟩
      have := congrArg (List.cons (Value.str y t)) h1
      simpa using this
theorem item_last {value slice : Expr} {u : Tok} {Q : Value → Shared → Prop} (N : News h₀ L s.heap nw) (hm : (D, listOf vs.toArray n) ∈ nw) (hi : StrsAre vs ss) (hne : ss ≠ []) (hb : ss.length ≤ 1000000)
    (h : ∀ t, Q (.str (ss.getLast hne) t) s)
    (hs : subscripted slice false (.ref D) (.int (-1) u) = operate [.ref D, .int (-1) u] (getItem (.ref D) (.int (-1) u)) := by with_unfolding_all rfl) :
    wpAny (model prog w) A (subscriptTail value slice (.ref D) (.int (-1) u)) Q E s := by
  refine Classical.byContradiction fun hng9 => ?_
  obtain ⟨t, h1, h2⟩ := strs_last hi hne
  refine hng9 ?_
  clear hng9
  have hl := lst_at N hm
  have hlen := hi.len_eq
  have hpos : 0 < ss.length := List.length_pos_iff.mpr hne
  have hd : vs.dropLast.length = vs.length - 1 := by simp
  refine tail_any hl.typeIs slot_list_getitem.lookup (wpAny_getItem_list_neg hl (by lia) (by rw [List.size_toArray]; lia) (by lia) (x := .str (ss.getLast hne) t) ?_ (h t)) hs
  rw [List.size_toArray]
  have e : ((-1 : Int) + (vs.length : Nat)).toNat = vs.dropLast.length := by rw [hd]; exact neg1_nat _
  rw [e]
  have : vs[vs.dropLast.length]? = some (.str (ss.getLast hne) t) := by
    conv => lhs; rw [h1]
    simp
  simpa using this
theorem pop_strs {Q : Value → Shared → Prop} (F : Fr h₀ L s.heap m) (N : News h₀ L s.heap nw) (hi : StrsAre vs ss) (hne : ss ≠ []) (hb : ss.length ≤ 1000000) (U : Upd D (listOf vs.toArray n) (listOf vs.dropLast.toArray (n + 1)) nw nw')
    (h : ∀ t h', Fr h₀ L h' m → News h₀ L h' nw' → StrsAre vs.dropLast ss.dropLast → Q (.str (ss.getLast hne) t) { s with heap := h' }) : wpAny (model prog w) A (call (.builtin "list.pop") [.ref D]) Q E s := by
  refine Classical.byContradiction fun hng9 => ?_
  obtain ⟨t, h1, h2⟩ := strs_last hi hne
  refine hng9 ?_
  clear hng9
  refine kl_pop F N (p := vs.dropLast) (y := .str (ss.getLast hne) t) ?_ U (by have := hi.len_eq; have := sizeLine_eq; simp; lia) fun h' F' N' => h t h' F' N' h2
  have e := kpa_last (.str (ss.getLast hne) t) vs.dropLast
  rw [← h1] at e
  simpa using e
theorem app_strs {x : Str} {t : Tok} {Q : Value → Shared → Prop} (F : Fr h₀ L s.heap m) (N : News h₀ L s.heap nw) (hi : StrsAre vs ss) (hb : ss.length ≤ 1000000) (U : Upd D (listOf vs.toArray n) (listOf (vs ++ [Value.str x t]).toArray (n + 1)) nw nw')
    (h : ∀ h', Fr h₀ L h' m → News h₀ L h' nw' → StrsAre (vs ++ [Value.str x t]) (ss ++ [x]) → Q .none { s with heap := h' }) : wpAny (model prog w) A (call (.builtin "list.append") [.ref D, .str x t]) Q E s := by
  refine append_K (its := vs.toArray) (n := n) F N (by simpa using U) (fun h' F' N' => h h' F' N' (hi.append' (.cons _ _ .nil))) (by have := hi.len_eq; have := sizeLine_eq; simp; lia)
end
theorem allLt_ne {d : Addr} {l : List (Addr × Obj)} (h : AllLt d l) : ∀ p ∈ l, p.1 ≠ d := fun p hp => Nat.ne_of_lt (ktn_ltOf h p hp)
theorem ne_app {d : Addr} {l l' : List (Addr × Obj)} (h : ∀ p ∈ l, p.1 ≠ d) (h' : ∀ p ∈ l', p.1 ≠ d) : ∀ p ∈ l ++ l', p.1 ≠ d := fun p hp => (List.mem_append.mp hp).elim (h p) (h' p)
theorem own_ne {own : List (Addr × Obj)} {adr : List Addr} {b : Addr} (h : OwnOff own adr) (hb : b ∈ adr) : ∀ p ∈ own, p.1 ≠ b := fun p hp => h p hp b hb

section
variable {prog : Program} {w : World} {A : Around} {E : Value → Shared → Prop} {s : Shared} {env : Env} {h₀ : Heap} {x : Str} {body : List Stmt} {Q : Flow → Shared → Prop}
/-- a loop over a list of the ledger, whatever it holds; the state c, the turn's number i -/
theorem loop_vals {σ : Type} {l : Addr} {vs : List Value} {nn : Nat} {m₀ : Str → Option Value} {news : List (Addr × Obj)} (Led : σ → List (Addr × Obj)) (cst : List (Addr × Obj)) (ps : σ → List (Str × Value)) (Facts : List (Addr × Obj) → σ → Prop) (stored : List Str) (P : Nat → σ → Prop) (adr : List Addr) (c₀ : σ)
    (hh : A.handled = none) (hl : (l, listOf vs.toArray nn) ∈ cst) (F : Fr h₀ env.locals s.heap m₀) (N : News h₀ env.locals s.heap news) (hn : ∀ p ∈ Led c₀ ++ (cst ++ []), p ∈ news) (hadr : ∀ c, (Led c ++ cst).map (·.1) = adr) (hf : Facts (cst ++ []) c₀) (hk : ∀ p ∈ ps c₀, m₀ p.1 = some p.2) (hp : P 0 c₀)
    (turn : ∀ (c : σ) tl i v (u : Str → Option Value) h tk own, vs[i]? = some v → KdSep own tl adr → OwnOff (tl ++ own) adr → Facts (cst ++ tl) c → P i c →
      Fr h₀ env.locals h (fun y => if y = x then some v else kstB (fun z => if stored.contains z then u z else m₀ z) (ps c) y) → News h₀ env.locals h (Led c ++ (cst ++ (tl ++ own))) →
      wpAny (model prog w) A (execs body env) (InvPostG h₀ env.locals (KdS Led cst ps Facts x stored m₀ P adr (i + 1)) own { s with heap := h, toks := tk } Q) E { s with heap := h, toks := tk })
    (done : ∀ (c : σ) tl (u : Str → Option Value) h tk, OwnOff tl adr → Facts (cst ++ tl) c → P vs.length c → Fr h₀ env.locals h (fun y => if y = x then u y else kstB (fun z => if stored.contains z then u z else m₀ z) (ps c) y) → News h₀ env.locals h (Led c ++ (cst ++ tl)) → Q .next { s with heap := h, toks := tk }) :
    wpAny (model prog w) A (pyIter (.ref l)) (fun it s₂ => LoopAtV prog w A h₀ env x body Q E it s₂) E s := by
  refine kdl_iter (news := Led c₀ ++ (cst ++ [])) (fun i m nx => KdS Led cst ps Facts x stored m₀ P adr i m nx) hh (List.mem_append.mpr (.inr (List.mem_append.mpr (.inl hl)))) F (fun p hp => N p (hn p hp)) ⟨c₀, [], rfl, fun _ hp => (nomatch hp), hf, hk, fun _ _ _ _ => rfl, hp⟩ ?_ ?_
  · intro i v m₁ nx h tk own hv hoff _ hI9 F₁ N₁
    refine Classical.byContradiction fun hng9 => ?_
    obtain ⟨c, tl, rfl, ht, hf', h1, h2, hp'⟩ := hI9
    refine hng9 ?_
    clear hng9
    obtain ⟨o1, o2⟩ := kd_split (hadr c) hoff
    rw [List.append_assoc, List.append_assoc] at N₁
    refine wpAny_mono (turn c tl i v m₁ h tk own hv ⟨o1, o2, ht⟩ (kd_off o1 ht) hf' hp' (kst_fr h1 h2 F₁) N₁) (fun f s₂ p => ?_) fun _ _ e => e
    have fin : InvEndG h₀ env.locals (KdS Led cst ps Facts x stored m₀ P adr (i + 1)) own { s with heap := h, toks := tk } s₂ → InvEndG h₀ env.locals (fun m' nx => (l, listOf vs.toArray nn) ∈ nx ∧ KdS Led cst ps Facts x stored m₀ P adr (i + 1) m' nx) own { s with heap := h, toks := tk } s₂ := by
      intro hI9
      refine Classical.byContradiction fun hng9 => ?_
      obtain ⟨h', tk', m', news', nx, e, F', N', hn', ho, ha, hm⟩ := hI9
      refine hng9 ?_
      clear hng9
      refine ⟨h', tk', m', news', nx, e, F', N', hn', ho, ha, ?_, hm⟩
      refine Classical.byContradiction fun hng9 => ?_
      obtain ⟨c', tl', rfl, _⟩ := hm
      refine hng9 ?_
      clear hng9
      exact List.mem_append.mpr (.inr (List.mem_append.mpr (.inl hl)))
    cases f with
    | ret v => exact p
    | brk => exact p
    | next => exact fin p
    | cont => exact fin p
  · intro m₁ nx h tk hI9 F₁ N₁
    refine Classical.byContradiction fun hng9 => ?_
    obtain ⟨c, tl, rfl, ht, hf', h1, h2, hp'⟩ := hI9
    refine hng9 ?_
    clear hng9
    exact done c tl m₁ h tk ht hf' hp' (kst_frOut h1 h2 F₁) N₁
end

noncomputable def Stuck (P : Prop) : Prop := P
theorem stuck_at {P : Prop} (h : Stuck P) : P := h

section
variable {σ τ : Type} {Led : σ → List (Addr × Obj)} {cst : List (Addr × Obj)} {ps : σ → List (Str × Value)} {Facts : List (Addr × Obj) → σ → Prop} {stored : List Str} {x : Str} {m₀ : Str → Option Value} {P : τ → σ → Prop} {adr : List Addr} {pre : τ} {h₀ h' : Heap} {L : Addr} {m' : Str → Option Value} {own tl nw : List (Addr × Obj)} {s₁ : Shared} {tk : Nat}
/-- a turn's end: nothing kept beyond the state -/
theorem loop_end (c : σ) (h0 : KdSep own tl adr) (F : Fr h₀ L h' m') (N : News h₀ L h' nw) (hn : ∀ p ∈ Led c ++ (cst ++ (tl ++ own)), p ∈ nw) (hadr : (Led c ++ cst).map (·.1) = adr) (hk : ∀ p ∈ ps c, m' p.1 = some p.2)
    (hr : ∀ z, z ≠ x → (∀ p ∈ ps c, z ≠ p.1) → stored.contains z = false → m' z = m₀ z) (hf : Facts (cst ++ tl) c) (hp : P pre c) :
    InvEndG h₀ L (KdS Led cst ps Facts x stored m₀ P adr pre) own s₁ { s₁ with heap := h', toks := tk } :=
  kd_end c [] h0 F N (fun p hp => hn p (by
    rcases List.mem_append.mp hp with h | h
    · exact List.mem_append.mpr (.inl h)
    · rcases List.mem_append.mp h with h | h
      · exact List.mem_append.mpr (.inr (List.mem_append.mpr (.inl h)))
      · exact List.mem_append.mpr (.inr (List.mem_append.mpr (.inr (List.mem_append.mpr (.inl h))))))) (fun p hp => hn p (List.mem_append.mpr (.inr (List.mem_append.mpr (.inr (List.mem_append.mpr (.inr hp))))))) hadr (fun _ h => nomatch h) (fun _ h => nomatch h) hk hr hf hp
end

theorem bind_star {K : Frag} {S : Setting} {fd : FuncData} {a r : Arg} {v : Value} {ws : List Value} (hp : fd.params = { posonlyargs := [], args := [a], vararg := some r, kwonlyargs := [], kw_defaults := [], kwarg := none, defaults := [] })
    (hd : fd.defaults = .none) (hz : ws.length ≤ sizeLine) (ha : a.arg = Str.ofString "a") (hr : r.arg = Str.ofString "p") :
    peek1 K S (bindArgs fd ⟨v :: ws, []⟩) = some (({ cls := .type "tuple", data := .seq ws.toArray } : Obj), fun D => some [(a.arg, v), (r.arg, .ref D)]) := by
  have hz' : ¬ (ws.toArray.size > sizeLine) := by rw [List.size_toArray]; exact Nat.not_lt.mpr hz
  have e2 : newTuple ws = (do let a ← alloc { cls := .type "tuple", data := .seq ws.toArray }; return .ref a) := by
    unfold newTuple newObj
    dsimp only
    rw [if_neg hz']
    rfl
  refine Classical.byContradiction fun hng9 => ?_
  obtain ⟨name, qual, params, body, scope, dV, kV, doc, cl, ct, oc, an, od, osl⟩ := fd
  refine hng9 ?_
  clear hng9
  refine Classical.byContradiction fun hng9 => ?_
  obtain ⟨aa, _, _⟩ := a
  refine hng9 ?_
  clear hng9
  refine Classical.byContradiction fun hng9 => ?_
  obtain ⟨rr, _, _⟩ := r
  refine hng9 ?_
  clear hng9
  dsimp only at hp hd ha hr
  subst hp hd ha hr
  cases ws with
  | nil =>
    show peek1 K S (newTuple [] >>= fun t => pure [(Str.ofString "a", v), (Str.ofString "p", t)]) = _
    rw [e2]
    rfl
  | cons x l =>
    show peek1 K S (newTuple (x :: l) >>= fun t => pure [(Str.ofString "a", v), (Str.ofString "p", t)]) = _
    rw [e2]
    rfl

section
variable {prog : Program} {w : World} {A : Around} {E : Value → Shared → Prop} {s : Shared} {env : Env} {h₀ : Heap} {x : Str} {body : List Stmt} {Q : Flow → Shared → Prop}
/-- a loop over one source object t of the ledger that stays as it is (a list, a tuple) -/
theorem src_iter {t : Addr} {ob oI : Obj} {n : Nat} {P : Nat → Value → Prop} {St : Nat → Heap → Prop} {m₀ : Str → Option Value} {news : List (Addr × Obj)} (J : Nat → (Str → Option Value) → List (Addr × Obj) → Prop)
    (W : Walks prog w A s.heap.objs.size [s.heap.objs.size, t] [s.heap.objs.size] n P St) (ht : (t, ob) ∈ news) (hst : St 0 (s.heap.push oI)) (hIo : ∀ i h, St i h → ∃ o, h.get? s.heap.objs.size = some o)
    (F : Fr h₀ env.locals s.heap m₀) (N : News h₀ env.locals s.heap news) (hj : J 0 m₀ news)
    (turn : ∀ i v m₁ news₁ h tk own, P i v → OwnOff own (news₁.map (·.1)) → (t, ob) ∈ news₁ → J i m₁ news₁ → Fr h₀ env.locals h (fun y => if y = x then some v else m₁ y) → News h₀ env.locals h (news₁ ++ own) →
      wpAny (model prog w) A (execs body env) (InvPostG h₀ env.locals (fun m' nx => (t, ob) ∈ nx ∧ J (i + 1) m' nx) own { s with heap := h, toks := tk } Q) E { s with heap := h, toks := tk })
    (done : ∀ m₁ news₁ h tk, J n m₁ news₁ → Fr h₀ env.locals h m₁ → News h₀ env.locals h news₁ → Q .next { s with heap := h, toks := tk }) :
    LoopAtV prog w A h₀ env x body Q E (.ref s.heap.objs.size) { s with heap := s.heap.push oI } := by
  have up : ∀ b o, s.heap.get? b = some o → (s.heap.push oI).get? b = some o := fun b o e => Heap.get?_push_of_some _ e
  have new0 : h₀.get? s.heap.objs.size = none := next_is_new F
  have htn := N _ ht
  have apart : ∀ p ∈ news, p.1 ∉ [s.heap.objs.size] := fun p hp hq => absurd (Heap.lt_size (N p hp).1) ((List.mem_singleton.mp hq) ▸ Nat.lt_irrefl _)
  have hLI : env.locals ∉ [s.heap.objs.size, t] := by
    intro hq
    rcases List.mem_cons.mp hq with e | hq
    · exact absurd F.ns.lt (e ▸ Nat.lt_irrefl _)
    · exact htn.2.1 (List.mem_singleton.mp hq).symm
  refine ⟨s.heap.objs.size, _, _, n, P, St, m₀, news, fun i m nx => (t, ob) ∈ nx ∧ J i m nx, rfl, W, hLI, fun b hb => by rw [List.mem_singleton.mp hb]; exact new0, apart, hst, F.push _, fun p hp => ⟨up _ _ (N p hp).1, (N p hp).2⟩, ⟨ht, hj⟩, ?_, ?_⟩
  · rintro i v m₁ news₁ s₁ own ⟨hh, tk, rfl⟩ _ hP ⟨ht₁, hJ⟩ hoff hin hat hall hst₁ F₁ N₁
    obtain ⟨oi, hoi⟩ := hIo _ _ hst₁
    have hIin : (s.heap.objs.size, oi) ∈ own := hall _ (List.mem_cons.mpr (.inl rfl)) new0 _ hoi
    let own' := own.filter fun p => decide (p.1 = s.heap.objs.size)
    have hI' : ∀ p ∈ own', p.1 = s.heap.objs.size := fun p hp => by simpa using (List.mem_filter.mp hp).2
    have sep : OwnOff own' (news₁.map (·.1)) := by
      intro p hp b hb e
      refine Classical.byContradiction fun hng9 => ?_
      obtain ⟨q, hq, rfl⟩ := List.mem_map.mp hb
      refine hng9 ?_
      clear hng9
      exact hoff q hq (List.mem_singleton.mpr (e ▸ hI' p hp))
    have N₂ : News h₀ env.locals hh (news₁ ++ own') := fun p hp => N₁ p ((List.mem_append.mp hp).elim (fun h => List.mem_append.mpr (.inr h)) fun h => List.mem_append.mpr (.inl (List.mem_filter.mp h).1))
    have hto : hh.get? t = some ob := (N₁ _ (List.mem_append.mpr (.inr ht₁))).1
    refine wpAny_mono (turn i v m₁ news₁ hh tk own' hP sep ht₁ hJ F₁ N₂) (fun f s₂ p => ?_) fun _ _ e => e
    have fin : InvEndG h₀ env.locals (fun m' nx => (t, ob) ∈ nx ∧ J (i + 1) m' nx) own' { s with heap := hh, toks := tk } s₂ →
        LoopStepU h₀ env.locals [s.heap.objs.size] own (fun m nx => (t, ob) ∈ nx ∧ J (i + 1) m nx) { s with heap := hh, toks := tk } .next s₂ := by
      intro hI9
      refine Classical.byContradiction fun hng9 => ?_
      obtain ⟨h', tk', m', news', nx, e, F', N', hn, ho, ha, hm⟩ := hI9
      refine hng9 ?_
      clear hng9
      refine ⟨rfl, h', tk', m', nx, e, F', fun p hp => ?_, fun p hp hq => ?_, hm⟩
      · rcases List.mem_append.mp hp with h | h
        · rcases List.mem_cons.mp (hin p h) with e1 | h1
          · exact N' p (ho p (List.mem_filter.mpr ⟨h, by simpa using e1⟩))
          · have e1 : p.1 = t := List.mem_singleton.mp h1
            have e2 : hh.get? p.1 = some p.2 := hat p h
            rw [e1, hto] at e2
            rw [show p = (t, ob) from Prod.ext e1 (Option.some.inj e2).symm]
            exact N' _ (hn _ hm.1)
        · exact N' p (hn p h)
      · exact ha _ (List.mem_filter.mpr ⟨hIin, by simp⟩) p.1 (List.mem_map.mpr ⟨p, hp, rfl⟩) (List.mem_singleton.mp hq).symm
    cases f with
    | ret v => exact .ret p
    | brk => exact .brk p
    | next => exact .next (fin p)
    | cont => exact .cont (fin p)
  · rintro h' tk m' news' F' N' _ ⟨_, hJ⟩
    exact done m' news' h' tk hJ F' N'

/-- a loop over a tuple of the ledger -/
theorem loop_tup {σ : Type} {l : Addr} {vs : List Value} {nn : Nat} {m₀ : Str → Option Value} {news : List (Addr × Obj)} (Led : σ → List (Addr × Obj)) (cst : List (Addr × Obj)) (ps : σ → List (Str × Value)) (Facts : List (Addr × Obj) → σ → Prop) (stored : List Str) (P : Nat → σ → Prop) (adr : List Addr) (c₀ : σ)
    (hh : A.handled = none) (hl : (l, ({ cls := .type "tuple", data := .seq vs.toArray nn } : Obj)) ∈ cst) (F : Fr h₀ env.locals s.heap m₀) (N : News h₀ env.locals s.heap news) (hn : ∀ p ∈ Led c₀ ++ (cst ++ []), p ∈ news) (hadr : ∀ c, (Led c ++ cst).map (·.1) = adr) (hf : Facts (cst ++ []) c₀) (hk : ∀ p ∈ ps c₀, m₀ p.1 = some p.2) (hp : P 0 c₀)
    (turn : ∀ (c : σ) tl i v (u : Str → Option Value) h tk own, vs[i]? = some v → KdSep own tl adr → OwnOff (tl ++ own) adr → Facts (cst ++ tl) c → P i c →
      Fr h₀ env.locals h (fun y => if y = x then some v else kstB (fun z => if stored.contains z then u z else m₀ z) (ps c) y) → News h₀ env.locals h (Led c ++ (cst ++ (tl ++ own))) →
      wpAny (model prog w) A (execs body env) (InvPostG h₀ env.locals (KdS Led cst ps Facts x stored m₀ P adr (i + 1)) own { s with heap := h, toks := tk } Q) E { s with heap := h, toks := tk })
    (done : ∀ (c : σ) tl (u : Str → Option Value) h tk, OwnOff tl adr → Facts (cst ++ tl) c → P vs.length c → Fr h₀ env.locals h (fun y => if y = x then u y else kstB (fun z => if stored.contains z then u z else m₀ z) (ps c) y) → News h₀ env.locals h (Led c ++ (cst ++ tl)) → Q .next { s with heap := h, toks := tk }) :
    wpAny (model prog w) A (pyIter (.ref l)) (fun it s₂ => LoopAtV prog w A h₀ env x body Q E it s₂) E s := by
  have N0 : News h₀ env.locals s.heap (Led c₀ ++ (cst ++ [])) := fun p hp => N p (hn p hp)
  have hl0 : (l, ({ cls := .type "tuple", data := .seq vs.toArray nn } : Obj)) ∈ Led c₀ ++ (cst ++ []) := List.mem_append.mpr (.inr (List.mem_append.mpr (.inl hl)))
  have hol := (N0 _ hl0).1
  have hit : s.heap.IsTuple l vs.toArray := ⟨_, hol, rfl, nn, rfl⟩
  have hne : l ≠ s.heap.objs.size := Nat.ne_of_lt (Heap.lt_size hol)
  have W := Walks.tuple (prog := prog) (w := w) hh s.heap.objs.size l hne vs.toArray
  rw [List.size_toArray] at W
  refine wpAny_pyIter_tuple hit (src_iter (fun i m nx => KdS Led cst ps Facts x stored m₀ P adr i m nx) W hl0 ⟨⟨_, Heap.get?_push_size _ rfl, rfl, rfl⟩, hit.push _⟩ (fun i h st => by obtain ⟨o, e, _⟩ := st.1; exact ⟨o, e⟩) F N0 ⟨c₀, [], rfl, fun _ hp => (nomatch hp), hf, hk, fun _ _ _ _ => rfl, hp⟩ ?_ ?_)
  · intro i v m₁ nx h tk own hv hoff _ hI9 F₁ N₁
    refine Classical.byContradiction fun hng9 => ?_
    obtain ⟨c, tl, rfl, ht, hf', h1, h2, hp'⟩ := hI9
    refine hng9 ?_
    clear hng9
    obtain ⟨o1, o2⟩ := kd_split (hadr c) hoff
    rw [List.append_assoc, List.append_assoc] at N₁
    refine wpAny_mono (turn c tl i v m₁ h tk own (by simpa using hv) ⟨o1, o2, ht⟩ (kd_off o1 ht) hf' hp' (kst_fr h1 h2 F₁) N₁) (fun f s₂ p => ?_) fun _ _ e => e
    have fin : InvEndG h₀ env.locals (KdS Led cst ps Facts x stored m₀ P adr (i + 1)) own { s with heap := h, toks := tk } s₂ → InvEndG h₀ env.locals (fun m' nx => (l, ({ cls := .type "tuple", data := .seq vs.toArray nn } : Obj)) ∈ nx ∧ KdS Led cst ps Facts x stored m₀ P adr (i + 1) m' nx) own { s with heap := h, toks := tk } s₂ := by
      intro hI9
      refine Classical.byContradiction fun hng9 => ?_
      obtain ⟨h', tk', m', news', nx, e, F', N', hn', ho, ha, hm⟩ := hI9
      refine hng9 ?_
      clear hng9
      refine ⟨h', tk', m', news', nx, e, F', N', hn', ho, ha, ?_, hm⟩
      refine Classical.byContradiction fun hng9 => ?_
      obtain ⟨c', tl', rfl, _⟩ := hm
      refine hng9 ?_
      clear hng9
      exact List.mem_append.mpr (.inr (List.mem_append.mpr (.inl hl)))
    cases f with
    | ret v => exact p
    | brk => exact p
    | next => exact fin p
    | cont => exact fin p
  · intro m₁ nx h tk hI9 F₁ N₁
    refine Classical.byContradiction fun hng9 => ?_
    obtain ⟨c, tl, rfl, ht, hf', h1, h2, hp'⟩ := hI9
    refine hng9 ?_
    clear hng9
    exact done c tl m₁ h tk ht hf' hp' (kst_frOut h1 h2 F₁) N₁
end

/-- the answer is a new list of texts -/
noncomputable def LiO (news : List (Addr × Obj)) (l : List Str) (n : List (Addr × Obj)) (r : Value) : Prop :=
  ∃ (D : Addr) (ws : List Value) (k : Nat), r = .ref D ∧ n = (D, listOf ws.toArray k) :: news ∧ StrsAre ws l ∧ AllLt D news
/-- the answer is a new pair of texts -/
noncomputable def PrO (news : List (Addr × Obj)) (a b : Str) (n : List (Addr × Obj)) (r : Value) : Prop :=
  ∃ (D : Addr) (t1 t2 : Tok), r = .ref D ∧ n = (D, { cls := .type "tuple", data := .seq #[.str a t1, .str b t2] }) :: news ∧ AllLt D news
theorem pr_mk {news : List (Addr × Obj)} {p : Str × Str} {a b : Str} {D : Addr} {t1 t2 : Tok} (e : p = (a, b)) (l : AllLt D news) :
    PrO news p.1 p.2 ((D, { cls := .type "tuple", data := .seq #[.str a t1, .str b t2] }) :: news) (.ref D) := ⟨D, t1, t2, rfl, by rw [e], l⟩

section
variable {prog : Program} {w : World} {A : Around} {E : Value → Shared → Prop} {s : Shared} {h₀ : Heap} {L a b : Addr} {m : Str → Option Value} {nw : List (Addr × Obj)} {vs ws : List Value} {n k : Nat} {Q : Value → Shared → Prop}
theorem add_vals (F : Fr h₀ L s.heap m) (N : News h₀ L s.heap nw) (ha : (a, listOf vs.toArray n) ∈ nw) (hb : (b, listOf ws.toArray k) ∈ nw) (hz : vs.length + ws.length ≤ 1000000)
    (h : ∀ D h', Fr h₀ L h' m → News h₀ L h' ((D, listOf (vs ++ ws).toArray 0) :: nw) → (∀ p ∈ nw, p.1 < D) → Q (.ref D) { s with heap := h' }) :
    wpAny (model prog w) A (binaryOp .Add (.ref a) (.ref b)) Q E s :=
  kmk_add_lit F N (lst_at N ha) (lst_at N hb) (by simp) h (by rw [sizeLine_eq]; simp; lia)
end
end

section
open PySem PySem.W PyProof.Rows PySem.Calls
noncomputable abbrev bndApp (D : Addr) : Obj := { cls := .type "builtin_function_or_method", data := .fields #[.builtin "list.append", .ref D] }
theorem slot_md_get : Slot "method_descriptor" "__get__" "method_descriptor.__get__" :=
  .of (owner := "method_descriptor") (n := "__get__") (by rw [typeLookup_type, builtinLookup_eq_fast]; kernel_rfl) (by decide +kernel) (by decide +kernel) (by decide +kernel)
    (by first | exact .inl (by decide +kernel) | exact .inr (by decide +kernel)) (by rw [isSubtype_type]; kernel_rfl)
theorem entry_md_get : entryFor table "method_descriptor.__get__" = some Builtin.«method_descriptor.__get__» := entryFor_of_tree (by kernel_rfl)
theorem args_md_get (a b c : Value) : argsOk "method_descriptor.__get__" ⟨[a, b, c], []⟩ := by unfold argsOk; kernel_rfl
theorem md_set : typeLookup (.type "method_descriptor") "__set__" = pure none := by rw [typeLookup_type, builtinLookup_eq_fast]; kernel_rfl
theorem md_delete : typeLookup (.type "method_descriptor") "__delete__" = pure none := by rw [typeLookup_type, builtinLookup_eq_fast]; kernel_rfl
theorem owner_list_append : (".".intercalate ("list.append".cutAt '.').dropLast) = "list" := by
  have e0 : "list.append".cutAt '.' = ["list", "append"] := by first | rfl | decide +kernel
  rw [e0]; decide +kernel
theorem sub_list_list : isSubtype (.type "list") (.type "list") = pure true := by rw [isSubtype_type]; kernel_rfl
section
variable {prog : Program} {w : World} {A : Around} {E : Value → Shared → Prop} {h : Heap} {g : Array GenState} {d : Drawn} {t : Nat} {os : OsState} {a : Addr} {o : Obj}
theorem app_get {R : Result → Shared → Prop} (hx : h.get? a = some o) (hc : o.cls = .type "list") (hq : R (.ok (.ret (.ref h.objs.size))) ⟨h.push (bndApp a), g, d, t, os⟩) :
    codeAny (model prog w) A (.call (.builtin "method_descriptor.__get__") ⟨[.builtin "list.append", .ref a, .type "list"], []⟩) R ⟨h, g, d, t, os⟩ := by
  have hT : (⟨h, g, d, t, os⟩ : Shared).TypeIs (.ref a) "list" := ⟨_, hx, hc⟩
  have hT5 : (⟨h, g, d, t, os⟩ : Shared).TypeIs (.builtin "list.append") "method_descriptor" := PySem.F.type_list_append
  have f8 : isSubtype (.type "list") (.type (".".intercalate ("list.append".cutAt '.').dropLast)) = pure true := by rw [owner_list_append]; exact sub_list_list
  refine codeAny_call_builtin slot_md_get.plain entry_md_get (slot_md_get.check _ _ _ _ _ _ _ _ hT5 (args_md_get _ _ _) ?_)
  repeat wp_step
  exact hq
theorem app_entry {tk : Tok} {Q : Fin → Shared → Prop} {its : Array Value} {n : Nat} (hx : h.get? a = some (listOf its n)) (hq : Q (.done (.ret (.ref h.objs.size))) ⟨h.push (bndApp a), g, d, t, os⟩) :
    wpAny (model prog w) A (Builtin.«object.__getattribute__» ⟨[.ref a, .str "append" tk], []⟩) Q E ⟨h, g, d, t, os⟩ := by
  have hT : (⟨h, g, d, t, os⟩ : Shared).TypeIs (.ref a) "list" := ⟨_, hx, rfl⟩
  have hT5 : (⟨h, g, d, t, os⟩ : Shared).TypeIs (.builtin "list.append") "method_descriptor" := PySem.F.type_list_append
  have f4 := PySem.F.slot_list_append.lookup
  have f5 := PySem.F.type_list_append
  have f6 := slot_md_get.lookup
  have f7 := md_set
  have f8 := md_delete
  repeat wp_step
  refine app_get hx rfl ?_
  repeat wp_step
  exact hq
theorem app_attr {ex : Bool} {its : Array Value} {n : Nat} {Q : Value → Shared → Prop} (hx : h.get? a = some (listOf its n)) (hq : Q (.ref h.objs.size) ⟨h.push (bndApp a), g, d, t + 1, os⟩) :
    wpAny (model prog w) A (getAttr (.ref a) "append" ex) Q E ⟨h, g, d, t, os⟩ := by
  have hT : (⟨h, g, d, t + 1, os⟩ : Shared).TypeIs (.ref a) "list" := ⟨_, hx, rfl⟩
  have f2 := PySem.F.slot_list_getattribute.lookup
  have f3 := PySem.F.slot_list_getattribute.bind (.ref a)
  have hx0 : (ex && onTheHeap (Value.builtin "list.__getattribute__")) = false := by cases ex <;> rfl
  unfold getAttr getAttrBy
  repeat wp_step
  refine codeAny_call_builtin PySem.F.slot_list_getattribute.plain PySem.F.entry_list_ga (PySem.F.slot_list_getattribute.check _ _ _ _ _ _ _ _ hT (PySem.F.args_list_getattribute_2 _ _) (app_entry hx ?_))
  repeat wp_step
  exact hq
end
section
variable {prog : Program} {w : World} {A : Around} {E : Value → Shared → Prop} {s : Shared} {h₀ : Heap} {L D : Addr} {m : Str → Option Value} {nw : List (Addr × Obj)}
/-- add = res.append: the bound method -/
theorem app_bound {ex : Bool} {its : Array Value} {n : Nat} {Q : Value → Shared → Prop} (F : Fr h₀ L s.heap m) (N : News h₀ L s.heap nw) (hm : (D, listOf its n) ∈ nw)
    (h : ∀ B h', Fr h₀ L h' m → News h₀ L h' ((B, bndApp D) :: nw) → (∀ p ∈ nw, p.1 < B) → Q (.ref B) { s with heap := h', toks := s.toks + 1 }) : wpAny (model prog w) A (getAttr (.ref D) (PySem.Str.ofString "append") ex) Q E s :=
  app_attr (N.get hm) (h _ _ (F.push _) (N.push F _) fun p hp => Heap.lt_size (N p hp).1)
theorem bnd_keeps {B : Addr} (h : Heap) (X : h.get? B = some (bndApp D)) {M : Model} : ∃ k, (k = Keeper.frame ∨ k = Keeper.machine ∨ k = Keeper.boundFrame) ∧ Looks M h (keeperOf (.ref B)) k := by
  refine ⟨.machine, .inr (.inl rfl), (Looks.ld (part := none) X).andThen .now⟩
end
end

section
open PySem PySem.W PyProof.Rows PySem.Calls
noncomputable def BndAt (B D : Addr) (h : Heap) : Prop := h.get? B = some (bndApp D)
section
variable {prog : Program} {w : World} {M : Model} {A : Around} {E : Value → Shared → Prop} {s : Shared} {h₀ : Heap} {L B D : Addr} {m : Str → Option Value} {nw nw' : List (Addr × Obj)}
theorem callWith_bnd {env : Env} {pos : Pos} {first : List Value} {e : Expr} {rest : List Expr} {Q : Value → Shared → Prop} (_N : News h₀ L s.heap nw) (_hm : (B, bndApp D) ∈ nw)
    (h : wpAny M A (spliced (backTo pos (starEach (e :: rest) env))) (fun vs s₁ => BndAt B D s₁.heap ∧ wpAny M A (call (.ref B) (first ++ vs)) Q E s₁) E s)
    (he : starEach (e :: rest) env = (false, eval e env) :: starEach rest env := by rfl) (hplain : (backTo pos (starEach rest env)).any (·.1) = false := by rfl) :
    wpAny M A (callWith pos (.ref B) first (backTo pos (starEach (e :: rest) env)) []) Q E s := by
  rw [he] at h ⊢
  exact callWith_of (P := BndAt B D) (by show ((false || (backTo pos (starEach rest env)).any (·.1)) || false) = false; rw [hplain]; rfl) (fun h X => bnd_keeps h X) (evalArgs_plain h)
theorem call_bnd {its : Array Value} {n : Nat} {x : Value} {Q : Value → Shared → Prop} (F : Fr h₀ L s.heap m) (N : News h₀ L s.heap nw) (hB : (B, bndApp D) ∈ nw) (U : Upd D (listOf its n) (listOf (its.push x) (n + 1)) nw nw')
    (h : ∀ h', Fr h₀ L h' m → News h₀ L h' nw' → Q .none { s with heap := h' }) (hsz : its.size ≤ sizeLine := by size_fits) : wpAny (model prog w) A (call (.ref B) [x]) Q E s := by
  have hU := U.split
  obtain ⟨pre, post, e1, e2, a, b⟩ := hU
  have hD : (D, listOf its n) ∈ nw := by rw [e1]; exact List.mem_append.mpr (.inr (.head _))
  have zD := N _ hD
  have hb := N.get hB
  have main : ∀ h', Heap.SameBut D s.heap h' → h'.get? D = some (listOf (its.push x) (n + 1)) → Q .none { s with heap := h' } := fun h' hs ho' => by
    refine h h' (F.change hs zD.2.1 zD.2.2) ?_
    rw [e2]
    exact news_set (by rw [← e1]; exact N) a b hs ho'
  refine wpAny_call (codeAny_of_tree ?_)
  show wpAny _ (A.under (.call (.ref B) ⟨[x], []⟩)) (callAny (.ref B) ⟨[x], []⟩) _ _ s
  simp only [callAny]
  refine wpAny_bind (wpAny_load hb ?_)
  refine wpAny_ite_true rfl ?_
  have hT : s.TypeIs (.ref D) "list" := ⟨_, zD.1, rfl⟩
  have f1 : isSubtype (.type "list") (.type "module") = pure false := by rw [isSubtype_type]; kernel_rfl
  have f2 : isSubtype (.type "list") (.type "type") = pure false := by rw [isSubtype_type]; kernel_rfl
  obtain ⟨hh, g, d, t, os⟩ := s
  have chk : ∀ {R : Unit → Shared → Prop} {A' : Around} {E' : Value → Shared → Prop}, R () ⟨hh, g, d, t, os⟩ → wpAny (model prog w) A' (checkBoundCall "list.append" ⟨[.ref D, x], []⟩) R E' ⟨hh, g, d, t, os⟩ := by
    intro R A' E' hR
    have hT9 : (⟨hh, g, d, t, os⟩ : Shared).TypeIs (.ref D) "list" := hT
    unfold checkBoundCall
    have hz9 : hh.get? D = some (listOf its n) := zD.1
    repeat wp_step
    exact hR
  refine wpAny_bind (chk ?_)
  refine wpAny_bind (wpAny_pure (wpAny_pure ⟨plainId_quiet slot_list_append.plain _, codeAny_builtin entry_list_append ?_⟩))
  show wpAny _ _ (updateSeq D (·.push x) >>= fun _ => ret .none) _ _ _
  refine wpAny_bind ?_
  refine wpAny_updateSeq zD.1 rfl (wpAny_pure (main _ (Heap.SameBut.update ..) ?_))
  rw [Heap.get?_update_self _ zD.1 (by rw [mapSeq_push]; rfl), mapSeq_push]
end
end

section
open PySem PySem.W PyProof.Rows PySem.Calls PySem.Builtin.Re
theorem slot_sub : Slot "re.Pattern" "sub" "re.Pattern.sub" :=
  .of (owner := "re.Pattern") (n := "sub") (by rw [typeLookup_type, builtinLookup_eq_fast]; kernel_rfl) (by decide +kernel) (by decide +kernel) (by decide +kernel)
    (by first | exact .inl (by decide +kernel) | exact .inr (by decide +kernel)) (by rw [isSubtype_type]; kernel_rfl)
theorem entry_sub : entryFor table "re.Pattern.sub" = some Builtin.«re.Pattern.sub» := entryFor_of_tree (by kernel_rfl)
theorem entry_subloop : entryFor table "re.Pattern.sub.loop" = some Builtin.«re.Pattern.sub.loop» := entryFor_of_tree (by kernel_rfl)
theorem args_sub (a b c : Value) : argsOk "re.Pattern.sub" ⟨[a, b, c], []⟩ := by unfold argsOk; kernel_rfl
theorem type_sub : typeOf (.builtin "re.Pattern.sub") = pure (.type "method_descriptor") := by kernel_rfl
theorem slot_group : Slot "re.Match" "group" "re.Match.group" :=
  .of (owner := "re.Match") (n := "group") (by rw [typeLookup_type, builtinLookup_eq_fast]; kernel_rfl) (by decide +kernel) (by decide +kernel) (by decide +kernel)
    (by first | exact .inl (by decide +kernel) | exact .inr (by decide +kernel)) (by rw [isSubtype_type]; kernel_rfl)
theorem entry_group : entryFor table "re.Match.group" = some Builtin.«re.Match.group» := entryFor_of_tree (by kernel_rfl)
theorem args_group (a b : Value) : argsOk "re.Match.group" ⟨[a, b], []⟩ := by unfold argsOk; kernel_rfl
theorem type_group : typeOf (.builtin "re.Match.group") = pure (.type "method_descriptor") := by kernel_rfl
theorem plain_pattern : PlainAttrs "re.Pattern" :=
  ⟨⟨"object.__getattribute__", by rw [typeLookup_type, builtinLookup_eq_fast]; kernel_rfl, by decide +kernel⟩, by rw [typeLookup_type, builtinLookup_eq_fast]; kernel_rfl⟩
theorem plain_match : PlainAttrs "re.Match" :=
  ⟨⟨"object.__getattribute__", by rw [typeLookup_type, builtinLookup_eq_fast]; kernel_rfl, by decide +kernel⟩, by rw [typeLookup_type, builtinLookup_eq_fast]; kernel_rfl⟩
/-- the engine's turns until it answers -/
noncomputable def driveM : Nat → Sre.M → Option Sre.M
  | 0, _ => none
  | k + 1, m => if (m.runFor reTurnSteps).outcome.isSome then some (m.runFor reTurnSteps) else driveM k (m.runFor reTurnSteps)
noncomputable def runM (m : Sre.M) : Option (Option Sre.M) := match driveM 300 m with
  | some m' => (match m'.outcome with | some .matched => some (some m') | some .failed => some none | _ => none)
  | none => none
section
variable {M : Model} {A : Around} {E : Value → Shared → Prop} {s : Shared}
theorem wp_drive {Q : Sre.M → Shared → Prop} : ∀ (k n : Nat) (m m' : Sre.M), driveM k m = some m' → k ≤ n → Q m' s → wpAny M A (reDrive n m) Q E s
  | 0, _, _, _, h, _, _ => by cases h
  | k + 1, 0, _, _, _, h, _ => by lia
  | k + 1, n + 1, m, m', h, hn, hq => by
    unfold driveM at h
    unfold reDrive
    by_cases hc : (m.runFor reTurnSteps).outcome.isSome = true
    · rw [if_pos hc] at h
      cases h
      simp only [hc, if_true]
      exact wpAny_pure hq
    · rw [if_neg hc] at h
      simp only [hc]
      exact wpAny_bind (wpAny_rule (wp_drive k n _ _ h (by lia) hq))
theorem wp_rules {Q : PUnit → Shared → Prop} (body : Nat → PUnit → Sem (ForInStep PUnit)) (hb : ∀ i, (∃ t, body i ⟨⟩ = (rule t >>= fun _ => pure (ForInStep.yield PUnit.unit))) ∨ body i ⟨⟩ = pure (ForInStep.yield PUnit.unit)) : ∀ (l : List Nat), Q ⟨⟩ s → wpAny M A (forIn l PUnit.unit body) Q E s
  | [], hq => by rw [List.forIn_nil]; exact wpAny_pure hq
  | i :: l, hq => by
    rw [List.forIn_cons]
    rcases hb i with ⟨t, e⟩ | e
    · rw [e]
      exact wpAny_bind (wpAny_bind (wpAny_rule (wpAny_pure (wp_rules body hb l hq))))
    · rw [e]
      exact wpAny_bind (wpAny_pure (wp_rules body hb l hq))
theorem wp_run {Q : Option Sre.M → Shared → Prop} {m : Sre.M} {r : Option Sre.M} (h : runM m = some r) (hq : Q r s) : wpAny M A (reRunToEnd m) Q E s := by
  unfold runM at h
  cases hd : driveM 300 m with
  | none => rw [hd] at h; cases h
  | some m' =>
    rw [hd] at h
    unfold reRunToEnd
    refine wpAny_bind (wp_drive 300 _ _ _ hd (by decide) ?_)
    refine wpAny_bind (wp_rules _ (fun i => ?_) _ ?_)
    · by_cases hc : m'.seen.has i = true
      · simp only [hc, if_true]; exact .inl ⟨_, rfl⟩
      · simp only [hc]; exact .inr rfl
    cases ho : m'.outcome with
    | none => simp only [ho] at h; cases h
    | some o => cases o with
      | matched => simp only [ho] at h ⊢; cases h; exact wpAny_pure hq
      | failed => simp only [ho] at h ⊢; cases h; exact wpAny_pure hq
      | stuck y => simp only [ho] at h; cases h
end
end

section
open PySem PySem.W PyProof.Rows PySem.Calls PySem.Spec
/-- a made generator over texts, ready to be drained: what it writes lies off the ledger -/
noncomputable def GenX (prog : Program) (w : World) (A : Around) (L a : Addr) (xs : List Str) (f : Str → Str) (news : List (Addr × Obj)) (s : Shared) : Prop :=
  ∃ fp wr g St, WalksS prog w A.in4 a fp wr (GenOnlyQ g) xs.length (fun j y => ∃ i, (List.range xs.length)[j]? = some i ∧ ∃ u, y = .str (f (xs.getD i "")) u) St ∧ St 0 s ∧ (∀ i s', St i s' → s'.TypeIs (.ref a) "generator") ∧ a ∈ fp ∧ (∀ b ∈ fp, b < s.heap.objs.size) ∧ (∀ b ∈ wr, L < b) ∧ ∀ b ∈ wr, ∀ q ∈ news, q.1 ≠ b
section
variable {prog : Program} {w : World} {A : Around} {E : Value → Shared → Prop} {s : Shared} {h₀ : Heap} {L c P : Addr} {m mg mb : Str → Option Value} {news : List (Addr × Obj)} {g : Obj → List (Addr × Obj)}
  {p : Program} {loose : List Str} {mean : ExcName → Option Value} {ps : Array Value}

theorem pass_all (n : Nat) : passing (fun _ => true) n 0 = List.range n := by
  unfold passing; simp

/-- the generators hold no frames, the outside is as it was -/
noncomputable def Bare (o : OsState) (s : Shared) : Prop := AllBare s.gens ∧ s.os = o
/-- the joined text of a made generator -/
theorem join_gen_K {sep : Str} {t : Tok} {a : Addr} {xs : List Str} {f : Str → Str} {Q : Value → Shared → Prop} (F : Fr h₀ L s.heap m) (N : News h₀ L s.heap news) (X : GenX prog w A L a xs f news s)
    (hok : JoinOk sep (xs.map f) = true) (hsz : xs.length ≤ sizeLine)
    (h : ∀ s' t', (∀ o, Bare o s → Bare o s') → Fr h₀ L s'.heap m → News h₀ L s'.heap news → Q (.str (Txt.join sep (xs.map f)) t') s') : wpAny (model prog w) A (call (.builtin "str.join") [.str sep t, .ref a]) Q E s := by
  obtain ⟨fp, wr, g, St, W, hst, hT, ha, hfp, hwr, hoff⟩ := X
  have W := W.in4_2
  refine SC.joinGen W hT hst hfp ha (fun j v hv => let ⟨_, _, u, e⟩ := hv; ⟨_, u, e⟩) (fun s' lt hm hacc => ?_) hsz
  have hl : lt.map (·.1) = xs.map f := by
    apply List.ext_getElem?
    intro j
    have hsz : lt.length = xs.length := by simpa [strValues] using hacc.1
    by_cases hj : j < xs.length
    · have hj' : j < lt.length := hsz ▸ hj
      obtain ⟨i, hi, u, hv⟩ := hacc.2 j (.str lt[j].1 lt[j].2) (by simp [strValues, List.getElem?_eq_getElem hj'])
      have hi2 : i = j := by simpa [hj] using hi.symm
      subst hi2
      injection hv with h1 _
      simp [List.getElem?_eq_getElem hj', hj, h1, List.getD_eq_getElem?_getD]
    · rw [List.getElem?_eq_none (by simpa [hsz] using Nat.le_of_not_lt hj), List.getElem?_eq_none (by simpa using Nat.le_of_not_lt hj)]
  rw [hl]
  have f1 := F.moved hm hwr
  have n1 : News h₀ L s'.heap news := fun q hq => ⟨hm.heap _ _ (fun hb => hoff _ hb q hq rfl) (N q hq).1, (N q hq).2⟩
  exact ⟨hok, fun t' k => h { s' with toks := k } t' (fun o hB => ⟨hB.1.moved hm.gens, hm.os.trans hB.2⟩) f1 n1⟩
end
end

section
open PySem PySem.W PyProof.Rows PySem.Calls PySem.Builtin.Re
noncomputable def spanM (m : Sre.M) : Option (Nat × Nat) :=
  if (1 : Int) ≤ m.lastmark then (match m.marks.getD 0 none, m.marks.getD 1 none with | some b, some e => if e < b then none else some (b, e) | _, _ => none) else none
noncomputable def subGo (code : Array Nat) (x : Str) : Nat → Nat → Bool → Option (List Str)
  | 0, _, _ => none
  | fuel + 1, done, must => match runM (Sre.forSearch code x.cps 1 done x.cps.size must) with
    | none => none
    | some none => some (if done < x.cps.size then [⟨x.cps.extract done x.cps.size⟩] else [])
    | some (some m) => match spanM m with
      | none => none
      | some (b, e) => (subGo code x fuel m.handed (m.handed == m.start)).map fun r => (if done < m.start then [⟨x.cps.extract done m.start⟩] else []) ++ ⟨#[92] ++ x.cps.extract b e⟩ :: r
theorem plain_subloop : plainId "re.Pattern.sub.loop" = true := by decide +kernel
section
variable {prog : Program} {w : World} {A : Around} {E : Value → Shared → Prop} {s : Shared}
theorem target_K {p ct : Addr} {po co : Obj} {fs : Array Value} {its : Array Value} {n : Nat} {x : Str} {tx : Tok} {Q : ReTarget → Shared → Prop} (hp : s.heap.get? p = some po) (hpd : po.data = .fields fs) (hcode : fs.getD 5 .none = .ref ct) (hwant : reRawNat (fs.getD 6 .none) = 0)
    (hc : s.heap.get? ct = some co) (hcd : co.data = .seq its n)
    (hq : Q { pattern := .ref p, string := .str x tx, code := (its.map reRawOf).map (·.toNat), text := x.cps, kind := 0, groups := reRawNat (fs.getD 2 .none), pos := 0, lim := x.cps.size } s) :
    wpAny (model prog w) A (reWholeTarget (.ref p) (.str x tx)) Q E s := by
  unfold reWholeTarget
  refine wpAny_bind (wpAny_fieldsOf hp hpd ?_)
  have ht : reTextOf (.str x tx) = pure (x.cps, 0) := rfl
  rw [ht]
  refine wpAny_bind (wpAny_pure ?_)
  dsimp only
  rw [hwant, hcode]
  rw [if_neg (by decide), if_neg (by decide)]
  have hn : reNoCollectionInside (.str x tx) 0 = pure () := rfl
  rw [hn]
  refine wpAny_bind (wpAny_pure ?_)
  unfold reRawItems
  refine wpAny_bind (wpAny_bind (wpAny_seqItems hc hcd ?_))
  exact wpAny_pure (wpAny_pure hq)
end
section
variable {prog : Program} {w : World} {A : Around} {E : Value → Shared → Prop} {s : Shared} {h₀ : Heap} {L : Addr} {m : Str → Option Value} {nw : List (Addr × Obj)}
theorem push_K {D : Addr} {its : Array Value} {n : Nat} {v : Value} {Q : Unit → Shared → Prop} (F : Fr h₀ L s.heap m) (N : News h₀ L s.heap ((D, listOf its n) :: nw)) (ap : ∀ q ∈ nw, q.1 ≠ D) (hsz : its.size ≤ 100000)
    (h : ∀ h', Fr h₀ L h' m → News h₀ L h' ((D, listOf (its.push v) (n + 1)) :: nw) → Q () { s with heap := h' }) : wpAny (model prog w) A (updateSeq D (·.push v)) Q E s := by
  have zD := N _ (.head _)
  have hz : its.size ≤ sizeLine := by rw [sizeLine_eq]; lia
  have hup : (s.heap.update D (Obj.mapSeq (·.push v))).get? D = some (listOf (its.push v) (n + 1)) := by rw [Heap.get?_update_self _ zD.1 (by rw [mapSeq_push]; rfl), mapSeq_push]
  exact wpAny_updateSeq zD.1 rfl (h _ (F.change (Heap.SameBut.update ..) zD.2.1 zD.2.2) (N.setHead ap (Heap.SameBut.update ..) hup))
noncomputable abbrev mobj (p : Addr) (x : Str) (tx : Tok) (lim : Nat) (li : Int) (tp : Addr) : Obj := { cls := .type "re.Match", data := .fields #[.str x tx, .ref p, rawInt (0 : Nat), rawInt lim, rawInt li, .ref tp] }
noncomputable abbrev mtup (a b c d : Nat) : Obj := { cls := .type "tuple", data := .seq #[rawInt a, rawInt b, rawInt c, rawInt d] }
/-- what a turn's function does to a found match -/
noncomputable def LamOk (prog : Program) (w : World) (A : Around) (h₀ : Heap) (L : Addr) (m : Str → Option Value) (nw : List (Addr × Obj)) (f p : Addr) (x : Str) (tx : Tok) : Prop :=
  ∀ (E : Value → Shared → Prop) (s : Shared) (nw' : List (Addr × Obj)) (a tp : Addr) (li : Int) (b0 e0 b e : Nat), Fr h₀ L s.heap m → News h₀ L s.heap nw' → (∀ q ∈ nw, q ∈ nw') → (a, mobj p x tx x.cps.size li tp) ∈ nw' → (tp, mtup b0 e0 b e) ∈ nw' →
    wpAny (model prog w) A (call (.ref f) [.ref a]) (fun v s' => ∃ u h tk, v = .str ⟨#[92] ++ x.cps.extract b e⟩ u ∧ s' = { s with heap := h, toks := tk } ∧ Fr h₀ L h m ∧ News h₀ L h nw') E s
theorem newMatch_K {M : Sre.M} {p : Addr} {x : Str} {tx : Tok} {lim b e : Nat} {Q : Value → Shared → Prop} (F : Fr h₀ L s.heap m) (N : News h₀ L s.heap nw) (hs : spanM M = some (b, e))
    (h : ∀ h' a tp, Fr h₀ L h' m → News h₀ L h' ((a, mobj p x tx lim M.lastindex tp) :: (tp, mtup M.start M.handed b e) :: nw) → Q (.ref a) { s with heap := h' }) :
    wpAny (model prog w) A (reNewMatch (.ref p) (.str x tx) 1 0 lim M) Q E s := by
  unfold spanM at hs
  split at hs
  · rename_i hl
    split at hs
    · rename_i b' e' h1 h2
      split at hs
      · cases hs
      · rename_i hlt
        cases hs
        unfold reNewMatch
        have hr : List.range 1 = [0] := rfl
        have hl' : ((2 * 0 + 1 : Nat) : Int) ≤ M.lastmark := hl
        rw [hr]
        simp only [List.flatMap_cons, List.flatMap_nil, List.any_cons, List.any_nil, Nat.mul_zero, Nat.zero_add, hl', if_true, h1, h2, decide_true, decide_eq_true_eq, hlt, Bool.or_false, Bool.true_and, List.append_nil]
        simp only [newTuple, newFields]
        refine wpAny_bind (wpAny_newObj_type ?_ (by size_fits))
        refine wpAny_newObj_type ?_ (by size_fits)
        exact h _ _ _ ((F.push _).push _) (News.push (F.push _) (N.push F _) _)
    · cases hs
  · cases hs
theorem newsT {h : Heap} {q : Addr × Obj} (N : News h₀ L h (q :: nw)) : News h₀ L h nw := fun p hp => N p (.tail _ hp)
theorem strs_snoc {y : Str} {t : Tok} : ∀ {vs : List Value} {ys : List Str}, StrsAre vs ys → StrsAre (vs ++ [.str y t]) (ys ++ [y])
  | _, _, .nil => .cons y t .nil
  | _, _, .cons z u r => .cons z u (strs_snoc r)
theorem piece_K {o : OsState} {α : Type} {c : Prop} [Decidable c] {D : Addr} {x : Str} {b e : Nat} {k : Sem α} {Q : α → Shared → Prop} {vs : List Value} {xs : List Str} (hB : Bare o s) (F : Fr h₀ L s.heap m) (N : News h₀ L s.heap ((D, listOf vs.toArray vs.length) :: nw)) (ap : ∀ q ∈ nw, q.1 ≠ D)
    (hS : StrsAre vs xs) (hsz : vs.length ≤ 100000) (hy : (⟨x.cps.extract b e⟩ : Str).length ≤ sizeLine)
    (h : ∀ s' vs', Bare o s' → Fr h₀ L s'.heap m → News h₀ L s'.heap ((D, listOf vs'.toArray vs'.length) :: nw) → StrsAre vs' (xs ++ (if c then [⟨x.cps.extract b e⟩] else [])) → vs'.length ≤ vs.length + 1 → wpAny (model prog w) A k Q E s') :
    wpAny (model prog w) A (if c then (do let a ← reSlice x.cps 0 b e; updateSeq D (fun x => x.push a); k) else k) Q E s := by
  by_cases hc : c
  · rw [if_pos hc]
    rw [if_pos hc] at h
    have hsl : reSlice x.cps 0 b e = mkStr ⟨x.cps.extract b e⟩ := rfl
    rw [hsl]
    refine wpAny_bind (wpAny_mkStr ?_ hy)
    refine wpAny_bind (push_K F N ap (by simpa using hsz) fun h' F' N' => ?_)
    refine h _ (vs ++ [.str _ s.toks]) hB F' ?_ (strs_snoc hS) (by simp)
    simpa using N'
  · rw [if_neg hc]
    rw [if_neg hc, List.append_nil] at h
    exact h s vs hB F N hS (by lia)
theorem subloop_K {o : OsState} {code : Array Nat} {f p ct D : Addr} {po co : Obj} {fs its : Array Value} {n : Nat} {x : Str} {tx : Tok} {R : Result → Shared → Prop}
    (F₀ : h₀.get? p = some po) (hpd : po.data = .fields fs) (hct : fs.getD 5 .none = .ref ct) (hwant : reRawNat (fs.getD 6 .none) = 0) (hgr : reRawNat (fs.getD 2 .none) = 1)
    (C₀ : h₀.get? ct = some co) (hcd : co.data = .seq its n) (hcode : (its.map reRawOf).map (·.toNat) = code) (hx : x.length ≤ 100000) (ap : ∀ q ∈ nw, q.1 ≠ D)
    (hlam : LamOk prog w (A.under (.builtin "re.Pattern.sub.loop" ⟨[], []⟩)) h₀ L m nw f p x tx)
    (total : List Str) (hw : (total.map (·.length)).sum + total.length ≤ 1048576) (hR : ∀ s' t', Bare o s' → Fr h₀ L s'.heap m → News h₀ L s'.heap nw → R (.ok (.ret (.str (Txt.join "" total) t'))) s') :
    ∀ (fuel done : Nat) (must : Bool) (k : Int) (vs : List Value) (xs rest : List Str) (s : Shared), subGo code x fuel done must = some rest → StrsAre vs xs → vs.length + 2 * fuel ≤ 4000 → xs ++ rest = total →
      Bare o s → Fr h₀ L s.heap m → News h₀ L s.heap ((D, listOf vs.toArray vs.length) :: nw) →
      codeAny (model prog w) A (.builtin "re.Pattern.sub.loop" ⟨[.ref p, .str x tx, .ref f, rawInt (1 : Nat), rawInt (0 : Nat), rawInt k, rawInt done, rawInt done, .bool must, .ref D, .bool false], []⟩) R s := by
  intro fuel
  induction fuel with
  | zero => intro done must k vs xs rest s h; cases h
  | succ fuel ih =>
    intro done must k vs xs rest s h hS hb ht hB F N
    refine codeAny_builtin entry_subloop ?_
    unfold Builtin.«re.Pattern.sub.loop»
    show wpAny _ _ (reWholeTarget (.ref p) (.str x tx) >>= _) _ _ s
    refine wpAny_bind (target_K (F.keep _ _ F₀) hpd hct hwant (F.keep _ _ C₀) hcd ?_)
    rw [hcode, hgr]
    dsimp only
    rw [if_neg (by decide)]
    have e0 : (((0 : Nat) : Int) != 0 && decide (k ≥ ((0 : Nat) : Int))) = false := rfl
    rw [e0, if_neg (by decide)]
    have hdn : ((done : Nat) : Int).toNat = done := Int.toNat_natCast done
    rw [hdn]
    unfold reNextFound
    unfold subGo at h
    cases hr : runM (Sre.forSearch code x.cps 1 done x.cps.size must) with
    | none => rw [hr] at h; cases h
    | some r =>
      rw [hr] at h
      refine wpAny_bind (wp_run hr ?_)
      have hlim : ∀ b e, (⟨x.cps.extract b e⟩ : Str).length ≤ sizeLine := fun b e => by
        rw [sizeLine_eq]
        have : (x.cps.extract b e).size ≤ x.cps.size := by simp; lia
        exact Nat.le_trans this (Nat.le_trans hx (by lia))
      cases r with
      | none =>
        dsimp only
        have fin : ∀ (s : Shared) (vs' : List Value) (xs' : List Str), Bare o s → Fr h₀ L s.heap m → News h₀ L s.heap ((D, listOf vs'.toArray vs'.length) :: nw) → StrsAre vs' xs' → xs' = total → wpAny (model prog w) (A.under (.builtin "re.Pattern.sub.loop" ⟨[], []⟩)) (do
            let joiner ← reSlice x.cps 0 0 0
            let __do_lift ← seqItems? (Value.ref D)
            if (__do_lift.getD #[]).isEmpty = true then do
                let text ← pure joiner
                ret text
              else do
                let text ← call (Value.builtin (if (0 == 0) = true then "str.join" else "bytes.join")) [joiner, Value.ref D]
                ret text) (fun fin s' =>
      match fin with
      | Fin.done f => R (Except.ok f) s'
      | Fin.again c' => c'.quiet = true ∧ codeAny (model prog w) A c' R s') (fun e s' => R (Except.error e) s') s := fun s vs' xs' hB F N hS ht => by
          subst ht
          have hsl : reSlice x.cps 0 0 0 = mkStr ⟨x.cps.extract 0 0⟩ := rfl
          rw [hsl]
          refine wpAny_bind (wpAny_mkStr ?_ (hlim 0 0))
          refine wpAny_bind (wpAny_seqItems (N _ (.head _)).1 rfl ?_)
          have e1 : (⟨x.cps.extract 0 0⟩ : Str) = "" := by simp; rfl
          have e2 : ((some vs'.toArray).getD #[]).isEmpty = vs'.isEmpty := by simp
          rw [e1, e2]
          cases vs' with
          | nil =>
            rw [List.isEmpty_nil, if_pos rfl]
            cases hS
            refine wpAny_bind (wpAny_pure (wpAny_pure ?_))
            exact hR _ _ hB F (newsT N)
          | cons v r =>
            rw [List.isEmpty_cons, if_neg Bool.false_ne_true]
            refine wpAny_bind ?_
            have e3 : (if ((0 : Nat) == 0) = true then "str.join" else "bytes.join") = "str.join" := rfl
            rw [e3]
            refine join_listW (items := (v :: r).toArray) (ys := xs') ⟨_, (N _ (.head _)).1, rfl, _, rfl⟩ (by simpa using hS) (by decide) hw fun t' k => ?_
            exact wpAny_pure (hR _ _ hB F (newsT N))
        simp only [Option.some.injEq] at h
        subst h
        simp only [Bool.false_eq_true, if_false]
        exact piece_K hB F N ap hS (by lia) (hlim _ _) fun s' vs' B' F' N' hS' _ => fin s' vs' _ B' F' N' hS' ht
      | some M =>
        dsimp only at h ⊢
        cases hsp : spanM M with
        | none => rw [hsp] at h; cases h
        | some be =>
          obtain ⟨b, e⟩ := be
          rw [hsp] at h
          dsimp only at h
          cases hg : subGo code x fuel M.handed (M.handed == M.start) with
          | none => rw [hg] at h; cases h
          | some rest' =>
            rw [hg] at h
            simp only [Option.map_some, Option.some.injEq] at h
            subst h
            refine piece_K hB F N ap hS (by lia) (hlim _ _) fun s' vs' B' F' N' hS' hl' => ?_
            rw [if_neg (by decide)]
            refine wpAny_bind (newMatch_K F' N' hsp fun h₁ a tp F₁ N₁ => ?_)
            rw [if_pos (by decide)]
            refine wpAny_bind (wpAny_holding (wpAny_mono (hlam _ _ _ _ _ _ _ _ _ _ F₁ N₁ (fun q hq => .tail _ (.tail _ (.tail _ hq))) (.head _) (.tail _ (.head _))) (fun v s₂ h₂ => ?_) fun _ _ e => e))
            refine Classical.byContradiction fun hng9 => ?_
            obtain ⟨u, h₃, tk, rfl, rfl, F₃, N₃⟩ := h₂
            refine hng9 ?_
            clear hng9
            have ne : (Value.str ⟨#[92] ++ x.cps.extract b e⟩ u != Value.none) = true := rfl
            rw [if_pos ne]
            refine wpAny_bind (push_K F₃ (newsT (newsT N₃)) ap (by simp; lia) fun h₄ F₄ N₄ => ?_)
            refine wpAny_pure ⟨plainId_quiet plain_subloop _, ?_⟩
            have hk1 : k + 1 = ((k + 1 : Int)) := rfl
            refine ih M.handed (M.handed == M.start) (k + 1) (vs' ++ [.str _ u]) (xs ++ (if done < M.start then [⟨x.cps.extract done M.start⟩] else []) ++ [⟨#[92] ++ x.cps.extract b e⟩]) rest' _ hg (strs_snoc hS') (by simp; lia) ?_ B' F₄ ?_
            · have e9 : xs ++ (if done < M.start then [(⟨x.cps.extract done M.start⟩ : Str)] else []) ++ [⟨#[92] ++ x.cps.extract b e⟩] ++ rest' = xs ++ ((if done < M.start then [(⟨x.cps.extract done M.start⟩ : Str)] else []) ++ ⟨#[92] ++ x.cps.extract b e⟩ :: rest') := by simp
              rw [e9]; exact ht
            · simpa using N₄
theorem sub_K {o : OsState} {code : Array Nat} {f p ct : Addr} {po co fo : Obj} {fs its : Array Value} {n : Nat} {x : Str} {tx : Tok} {rest : List Str} {Q : Value → Shared → Prop}
    (F : Fr h₀ L s.heap m) (N : News h₀ L s.heap nw)
    (F₀ : h₀.get? p = some po) (hpc : po.cls = .type "re.Pattern") (hpd : po.data = .fields fs) (hct : fs.getD 5 .none = .ref ct) (hwant : reRawNat (fs.getD 6 .none) = 0) (hgr : reRawNat (fs.getD 2 .none) = 1)
    (C₀ : h₀.get? ct = some co) (hcd : co.data = .seq its n) (hcode : (its.map reRawOf).map (·.toNat) = code) (hx : x.length ≤ 100000)
    (hf : s.heap.get? f = some fo) (hfc : fo.cls = .type "function")
    (hlam : LamOk prog w (A.under (.builtin "re.Pattern.sub.loop" ⟨[], []⟩)) h₀ L m nw f p x tx)
    (hs : subGo code x 1000 0 false = some rest) (hw : (rest.map (·.length)).sum + rest.length ≤ 1048576)
    (h : ∀ s' t', Bare o s' → Fr h₀ L s'.heap m → News h₀ L s'.heap nw → Q (.str (Txt.join "" rest) t') s')
    (hB : Bare o s := by first | assumption | exact And.right (by assumption)) :
    wpAny (model prog w) A (call (.builtin "re.Pattern.sub") [.ref p, .ref f, .str x tx]) Q E s := by
  have hT : s.TypeIs (.ref p) "re.Pattern" := ⟨_, F.keep _ _ F₀, hpc⟩
  have hTf : s.TypeIs (.ref f) "function" := ⟨_, hf, hfc⟩
  refine wpAny_call (codeAny_call_builtin slot_sub.plain entry_sub (slot_sub.check _ _ _ _ _ _ _ _ hT (args_sub _ _ _) ?_))
  unfold Builtin.«re.Pattern.sub» reSubstitute
  repeat wp_step
  have fcall : typeLookup (.type "function") "__call__" = pure (some (.builtin "function.__call__")) := by rw [typeLookup_type, builtinLookup_eq_fast]; kernel_rfl
  have fby : isSubtype (.type "str") (.type "bytearray") = pure false := by rw [isSubtype_type]; kernel_rfl
  refine wpAny_of_eq fcall ?_
  (try dsimp only [Option.isSome_some])
  rw [if_pos rfl]
  refine wpAny_bind (wpAny_pure ?_)
  rw [if_pos rfl]
  refine wpAny_bind (wpAny_pure ?_)
  refine wpAny_bind (wpAny_holding (target_K (F.keep _ _ F₀) hpd hct hwant (F.keep _ _ C₀) hcd ?_))
  dsimp only
  rw [if_pos (show ((1 : Int) == 1) = true from rfl)]
  unfold reNotHeld
  refine wpAny_bind (wpAny_bind (wpAny_isInstance (typeIs_str _ _ _) fby ?_))
  rw [if_neg Bool.false_ne_true]
  refine wpAny_pure ?_
  refine wpAny_bind (m := newList []) (wpAny_newObj_type ?_)
  refine wpAny_pure ⟨plainId_quiet plain_subloop _, ?_⟩
  exact subloop_K F₀ hpd hct hwant hgr C₀ hcd hcode hx (fun q hq => Nat.ne_of_lt (Heap.lt_size (N q hq).1)) hlam rest hw (fun s' t' B' F' N' => h s' t' B' F' N') 1000 0 false 0 [] [] rest _ hs .nil (by decide) rfl hB (F.push _) (N.push F _)
end
end

section
open PySem PySem.W PyProof.Rows PySem.Calls PySem.Builtin PySem.Builtin.Str
/-- a state to meet at: the ledger, the locals that are said, the rest free or as before -/
noncomputable def MeetL {σ : Type} (h₀ : Heap) (L : Addr) (Led : σ → List (Addr × Obj)) (ps : σ → List (Str × Value)) (stored : List Str) (m₀ : Str → Option Value) (P : σ → Prop) (s₂ : Shared) : Prop :=
  ∃ (c : σ) (m' : Str → Option Value) (nw : List (Addr × Obj)), Fr h₀ L s₂.heap m' ∧ News h₀ L s₂.heap nw ∧ (∀ p ∈ Led c, p ∈ nw) ∧ (∀ p ∈ ps c, m' p.1 = some p.2) ∧ (∀ z, (∀ p ∈ ps c, z ≠ p.1) → stored.contains z = false → m' z = m₀ z) ∧ P c
/-- the same, the generators bare -/
noncomputable def MeetAt {σ : Type} (o : OsState) (h₀ : Heap) (L : Addr) (Led : σ → List (Addr × Obj)) (ps : σ → List (Str × Value)) (stored : List Str) (m₀ : Str → Option Value) (P : σ → Prop) (s₂ : Shared) : Prop := Bare o s₂ ∧ MeetL h₀ L Led ps stored m₀ P s₂
theorem meet {σ : Type} {o : OsState} {h₀ : Heap} {L : Addr} {Led : σ → List (Addr × Obj)} {ps : σ → List (Str × Value)} {stored : List Str} {m₀ m' : Str → Option Value} {P : σ → Prop} {s₂ : Shared} {nw : List (Addr × Obj)} (c : σ) (F : Fr h₀ L s₂.heap m') (N : News h₀ L s₂.heap nw)
    (hn : ∀ p ∈ Led c, p ∈ nw) (hk : ∀ p ∈ ps c, m' p.1 = some p.2) (hr : ∀ z, (∀ p ∈ ps c, z ≠ p.1) → stored.contains z = false → m' z = m₀ z) (hp : P c) (hB : Bare o s₂ := by first | assumption | exact And.right (by assumption)) : MeetAt o h₀ L Led ps stored m₀ P s₂ := ⟨hB, c, m', nw, F, N, hn, hk, hr, hp⟩
noncomputable def WhlG {σ : Type} (o : OsState) (h₀ : Heap) (L : Addr) (Led : σ → List (Addr × Obj)) (ps : σ → List (Str × Value)) (stored : List Str) (m₀ : Str → Option Value) (P : σ → Prop) (μ : σ → Nat) (Q : Flow → Shared → Prop) (k : Nat) (f : Flow) (s₂ : Shared) : Prop :=
  match f with
  | .ret v => Q (.ret v) s₂
  | .brk => Q .next s₂
  | _ => MeetAt o h₀ L Led ps stored m₀ (fun c => P c ∧ μ c < k) s₂
section
variable {prog : Program} {w : World} {A : Around} {E : Value → Shared → Prop} {Q : Flow → Shared → Prop} {s : Shared} {env : Env} {h₀ : Heap} {L : Addr} {o : OsState}
theorem meet_use {σ : Type} {Led : σ → List (Addr × Obj)} {ps : σ → List (Str × Value)} {stored : List Str} {m₀ : Str → Option Value} {P : σ → Prop} {s₂ : Shared} (h : MeetL h₀ L Led ps stored m₀ P s₂) :
    ∃ (c : σ) (u : Str → Option Value), P c ∧ Fr h₀ L s₂.heap (kstB (fun z => if stored.contains z then u z else m₀ z) (ps c)) ∧ News h₀ L s₂.heap (Led c) := by
  refine Classical.byContradiction fun hng9 => ?_
  obtain ⟨c, m', nw, F, N, hn, hk, hr, hp⟩ := h
  refine hng9 ?_
  clear hng9
  exact ⟨c, m', hp, ksw_fr hk hr F, fun p hq => N p (hn p hq)⟩
theorem gen_pos {α : Type} {M : Model} {A : Around} {t : Sem α} {Q : α → Shared → Prop} {E : Value → Shared → Prop} {h : Heap} {g : Array GenState} {d : Drawn} {n : Nat} {o : OsState} (h0 : 0 < n)
    (hq : ∀ tk, 0 < tk → wpAny M A t Q E ⟨h, g, d, tk, o⟩) : wpAny M A t Q E ⟨h, g, d, n, o⟩ := hq n h0
theorem has_pos {α : Type} {M : Model} {A : Around} {t : Sem α} {Q : α → Shared → Prop} {E : Value → Shared → Prop} {h : Heap} {g : Array GenState} {d : Drawn} {n : Nat} {o : OsState} (_ : 0 < n) (hq : wpAny M A t Q E ⟨h, g, d, n, o⟩) : wpAny M A t Q E ⟨h, g, d, n, o⟩ := hq
/-- both ways of a statement meet -/
theorem cut_at {σ : Type} {t : Sem Flow} {m₀ : Str → Option Value} (_F : Fr h₀ L s.heap m₀) (Led : σ → List (Addr × Obj)) (ps : σ → List (Str × Value)) (stored : List Str) (P : σ → Prop)
    (h1 : ∀ R : Flow → Shared → Prop, (∀ s', MeetAt o h₀ L Led ps stored m₀ P s' → R .next s') → wpAny (model prog w) A t R E s)
    (h2 : ∀ (c : σ) (u : Str → Option Value) (s' : Shared), s.toks ≤ s'.toks ∧ Bare o s' → P c → Fr h₀ L s'.heap (kstB (fun z => if stored.contains z then u z else m₀ z) (ps c)) → News h₀ L s'.heap (Led c) → Q .next s')
    (_hB : Bare o s := by first | assumption | exact And.right (by assumption)) :
    wpAny (model prog w) A t Q E s :=
  wpAny_with_toks (Nat.le_refl _) (wpAny_mono (h1 (fun f s' => f = .next ∧ MeetAt o h₀ L Led ps stored m₀ P s') fun _ h => ⟨rfl, h⟩) (fun f s' h htk => by
    refine Classical.byContradiction fun hng9 => ?_
    obtain ⟨rfl, hb, hm⟩ := h
    refine hng9 ?_
    clear hng9
    refine Classical.byContradiction fun hng9 => ?_
    obtain ⟨c, u, hp, F, N⟩ := meet_use hm
    refine hng9 ?_
    clear hng9
    exact h2 c u s' ⟨htk, hb⟩ hp F N) fun _ _ e _ => e)
theorem whileG {σ : Type} {test : Expr} {body : List Stmt} {pos : Pos} {m₀ : Str → Option Value} (Led : σ → List (Addr × Obj)) (ps : σ → List (Str × Value)) (stored : List Str) (P : σ → Prop) (μ : σ → Nat) (c₀ : σ)
    (F : Fr h₀ L s.heap m₀) (N : News h₀ L s.heap (Led c₀)) (hk : ∀ p ∈ ps c₀, m₀ p.1 = some p.2) (hp : P c₀)
    (turn : ∀ (c : σ) (u : Str → Option Value) (s' : Shared), s.toks ≤ s'.toks ∧ Bare o s' → P c → Fr h₀ L s'.heap (kstB (fun z => if stored.contains z then u z else m₀ z) (ps c)) → News h₀ L s'.heap (Led c) →
      ∀ R : Flow → Shared → Prop, (∀ f s₂, WhlG o h₀ L Led ps stored m₀ P μ Q (μ c) f s₂ → R f s₂) →
      wpAny (model prog w) A (isTrue test env (eval test env)) (fun b s₂ =>
        if b = true then wpAny (model prog w) A (execs body env) R E s₂ else Q .next s₂) E s')
    (hB : Bare o s := by first | assumption | exact And.right (by assumption))
    (hE : PassesOwn (model prog w) A env E := by passes_own) :
    wpAny (model prog w) A (exec (.While test body [] pos) env) Q E s := by
  refine wpAny_While (codeAny_whileLoop (fun n s' => s.toks ≤ s'.toks ∧ MeetAt o h₀ L Led ps stored m₀ (fun c => P c ∧ μ c = n) s') ?_ (μ c₀) ⟨Nat.le_refl _, hB, c₀, m₀, _, F, N, fun _ h => h, hk, fun _ _ _ => rfl, hp, rfl⟩)
  intro n s' hm
  refine Classical.byContradiction fun hng9 => ?_
  obtain ⟨ht, hb, hm⟩ := hm
  refine hng9 ?_
  clear hng9
  refine Classical.byContradiction fun hng9 => ?_
  obtain ⟨c, u, ⟨hp', rfl⟩, F', N'⟩ := meet_use hm
  refine hng9 ?_
  clear hng9
  refine wpAny_with_toks ht (wpAny_mono (turn c u s' ⟨ht, hb⟩ hp' F' N' _ fun _ _ h => h) (fun b s₂ h₂ ht₂ => ?_) fun e s₂ h _ => hE e s₂ h)
  cases b with
  | false =>
    simp only [Bool.false_eq_true, if_false] at h₂ ⊢
    exact wpAny_execs_nil h₂
  | true =>
    simp only [if_true] at h₂ ⊢
    refine wpAny_with_toks ht₂ (wpAny_mono h₂ (fun f s₃ h₃ ht₃ => ?_) fun e s₂ h _ => hE e s₂ h)
    cases f with
    | ret v => exact h₃
    | brk => exact h₃
    | next =>
      refine Classical.byContradiction fun hng9 => ?_
      obtain ⟨hb', c', m', nw, F, N, hn, hk, hr, hp, hlt⟩ := h₃
      refine hng9 ?_
      clear hng9
      exact ⟨μ c', hlt, ht₃, hb', c', m', nw, F, N, hn, hk, hr, hp, rfl⟩
    | cont =>
      refine Classical.byContradiction fun hng9 => ?_
      obtain ⟨hb', c', m', nw, F, N, hn, hk, hr, hp, hlt⟩ := h₃
      refine hng9 ?_
      clear hng9
      exact ⟨μ c', hlt, ht₃, hb', c', m', nw, F, N, hn, hk, hr, hp, rfl⟩
end

/-- as Does, but the generators' store may have grown -/
noncomputable def DoesG (prog : Program) (w : World) (K : Frag) (p : Program) (loose : List Str) (mean : ExcName → Option Value) (mg mb : Str → Option Value) (f : Addr) (dep : Nat)
    (news : List (Addr × Obj)) (vs : List Value) (Ro : List (Addr × Obj) → Value → Prop) : Prop :=
  ∀ (dp un : Nat) (gd : Option (List Code)) (cn : Str) (cs : Scope) (a : Addr) (ccd : Value) (cl : List (Str × Addr)) (outer : List Env) (A₀ : Around) (base h₀ : Heap) (L : Addr) (m : Str → Option Value) (s : Shared) (o : OsState) (Q E : Value → Shared → Prop),
    Below A₀ base outer h₀ → Fr h₀ L s.heap m → K.In h₀ → News h₀ L s.heap news → Top p loose mean mg mb h₀ → cs.kind = .function → dp + dep < recursionLimit → un + 8 * dep < cLine → Bare o s →
    (∀ (news' : List (Addr × Obj)) (r : Value) (s' : Shared), Ro news' r → Bare o s' → Fr h₀ L s'.heap m → News h₀ L s'.heap news' → Q r s') →
      wpAny (model prog w) (ktrTop dp un gd cn cs L a ccd cl outer) (call (.ref f) vs) Q E s
section
variable {prog : Program} {w : World} {K : Frag} {p : Program} {loose : List Str} {mean : ExcName → Option Value} {mg mb : Str → Option Value} {f : Addr} {dep : Nat} {news : List (Addr × Obj)} {vs : List Value} {Ro : List (Addr × Obj) → Value → Prop}
theorem DoesG.use {o : OsState} {dp un : Nat} {gd : Option (List Code)} {cn : Str} {cs : Scope} {a : Addr} {ccd : Value} {cl : List (Str × Addr)} {outer : List Env} {A₀ : Around} {base h₀ : Heap} {L : Addr} {m : Str → Option Value} {s : Shared} {Q E : Value → Shared → Prop}
    (B : Below A₀ base outer h₀) (F : Fr h₀ L s.heap m) (X : K.In h₀) (N : News h₀ L s.heap news) (T : Top p loose mean mg mb h₀) (hk : cs.kind = .function) (hd : dp + dep < recursionLimit) (hu : un + 8 * dep < cLine)
    (D : DoesG prog w K p loose mean mg mb f dep news vs Ro)
    (h : ∀ (news' : List (Addr × Obj)) (r : Value) (s' : Shared), Ro news' r → Bare o s' → Fr h₀ L s'.heap m → News h₀ L s'.heap news' → Q r s')
    (hB : Bare o s := by first | assumption | exact And.right (by assumption)) :
    wpAny (model prog w) (ktrTop dp un gd cn cs L a ccd cl outer) (call (.ref f) vs) Q E s := D dp un gd cn cs a ccd cl outer A₀ base h₀ L m s o Q E B F X N T hk hd hu hB h
end
/-- the code table: whole triples; the lambda's code, if made, is on the ledger -/
structure TabOk (posL : Pos) (qual : Str) (led : List (Addr × Obj)) (ps : Array Value) : Prop where
  tri : TriplesOk ps.toList
  lam : codeAmong posL ps.toList = none ∨ ∃ c' oc vs t, codeAmong posL ps.toList = some (.ref c') ∧ (c', oc) ∈ led ∧ oc.data = .fields vs ∧ vs[1]? = some (.str qual t)
end

section
open PySem PySem.W PyProof.Rows PySem.Calls
section
variable {prog : Program} {w : World} {A : Around} {E : Value → Shared → Prop} {s : Shared}
theorem getItem_miss {d : Addr} {k : Int} {t : Tok} {f : Int → Option Value} {Q : Value → Shared → Prop} (hm : s.heap.MapOf (intKind prog w) d f) (hd : (d == sysModules) = false) (hh : A.handled = none) (hf : f k = none)
    (h : ∀ h' e, Heap.NewExc s.heap h' e "KeyError" → E (.ref e) { s with heap := h', toks := s.toks + 1 }) : wpAny (model prog w) A (getItem (.ref d) (.int k t)) Q E s := by
  unfold getItem
  try with_reducible refine wpAny_holding ?_
  refine wpAny_bind (wpAny_sequenceKey hm.typeIs (by decide) ?_)
  refine wpAny_bind (wpAny_callSpecial?_slot (name := Str.ofString "__getitem__") hm.typeIs slot_dict_getitem ?_)
  exact call_meetsIn slot_dict_getitem hm.typeIs entry_dict_getitem (args_dict_getitem _ _) (meets_dict_getitem_missing (intKind prog w) d (intKind_is prog w k t) hd) ⟨hh, f, hm, hf, h⟩
end
end

section
open PySem PySem.W PyProof.Rows PySem.Calls PySem.Builtin
theorem sub_key_lookup : isSubtype (.type "KeyError") (.type "LookupError") = pure true := by rw [isSubtype_type]; kernel_rfl
section
variable {prog : Program} {w : World} {A : Around} {E : Value → Shared → Prop} {s : Shared} {d : Addr} {c : Nat} {f : Int → Option Value}
theorem lookup_hit {y : Str} {u : Tok} {Q : Str.Mapped → Shared → Prop} (hm : s.heap.MapOf (intKind prog w) d f) (hf : f (c : Int) = some (.str y u)) (h : ∀ tk, Q (.text y) { s with toks := tk }) :
    wpAny (model prog w) A (Str.tableLookup (.ref d) c) Q E s := by
  unfold Str.tableLookup
  refine wpAny_bind (wpAny_attempt (wpAny_bind (wpAny_mkInt (wpAny_getItem_of (intKind_is prog w c _) hm hf ?_))))
  obtain ⟨hh, g, dd, t, os⟩ := s
  repeat (any_goals (first | assumption | exact h _ | wp_step))
theorem lookup_miss {Q : Str.Mapped → Shared → Prop} (hm : s.heap.MapOf (intKind prog w) d f) (hd : (d == sysModules) = false) (hh : A.handled = none) (hf : f (c : Int) = none)
    (h : ∀ h' tk, (∀ b o, s.heap.get? b = some o → h'.get? b = some o) → Q .keep { s with heap := h', toks := tk }) :
    wpAny (model prog w) A (Str.tableLookup (.ref d) c) Q E s := by
  unfold Str.tableLookup
  refine wpAny_bind (wpAny_attempt (wpAny_bind (wpAny_mkInt (getItem_miss hm hd hh hf fun h' e hx => ?_))))
  obtain ⟨ob, t, ho, hc, hdd⟩ := hx.there
  have hT : ({ s with heap := h', toks := s.toks + 1 + 1 } : Shared).TypeIs (.ref e) "KeyError" := ⟨ob, ho, hc⟩
  have f1 := sub_key_lookup
  obtain ⟨hh, g, dd, t, os⟩ := s
  repeat (any_goals (first | assumption | exact h _ _ hx.keeps | wp_step))
theorem cps_lt (hc : c < 128) : (#[c].all (· < 128)) = true := by simp [hc]
theorem len_one (c : Nat) : ((⟨#[c]⟩ : PySem.Str).length == 0) = false := rfl
theorem translate_hit {t u : Tok} {Q : Value → Shared → Prop} (hm : s.heap.MapOf (intKind prog w) d f) (hf : f (c : Int) = some (.str ⟨#[92, c]⟩ u)) (hc : c < 128)
    (h : ∀ t' tk, Q (.str ⟨#[92, c]⟩ t') { s with toks := tk }) : wpAny (model prog w) A (call (.builtin "str.translate") [.str ⟨#[c]⟩ t, .ref d]) Q E s := by
  refine call_meetsIn (S := fun A R s => s.heap.MapOf (intKind prog w) d f ∧ ∀ t' tk, R (.ok (.ret (.str ⟨#[92, c]⟩ t'))) { s with toks := tk }) PySem.F.slot_str_translate rfl PySem.F.entry_str_translate (PySem.F.args_str_translate_2 _ _) ?_ ⟨hm, h⟩
  refine .of_wp fun A R s x => ?_
  obtain ⟨hm, h⟩ := x
  unfold Builtin.«str.translate»
  have f1 := cps_lt hc
  have f2 := len_one c
  obtain ⟨hh, g, dd, tk, os⟩ := s
  clear hc
  repeat (first | ((with_reducible show wpAny _ _ (ite _ _ _) _ _ _); refine wpAny_ite_true (decide_eq_true f1) ?_) | ((with_reducible show wpAny _ _ (Str.tableLookup _ _) _ _ _); refine lookup_hit hm hf ?_; intro tk'; (try dsimp only)) | wp_step)
  exact ⟨_, rfl, h _ _⟩
theorem translate_miss {t : Tok} {Q : Value → Shared → Prop} (hm : s.heap.MapOf (intKind prog w) d f) (hd : (d == sysModules) = false) (hh : A.handled = none) (hf : f (c : Int) = none) (hc : c < 128)
    (h : ∀ h' t' tk, (∀ b o, s.heap.get? b = some o → h'.get? b = some o) → Q (.str ⟨#[c]⟩ t') { s with heap := h', toks := tk }) : wpAny (model prog w) A (call (.builtin "str.translate") [.str ⟨#[c]⟩ t, .ref d]) Q E s := by
  refine call_meetsIn (S := fun A R s => A.handled = none ∧ s.heap.MapOf (intKind prog w) d f ∧ ∀ h' t' tk, (∀ b o, s.heap.get? b = some o → h'.get? b = some o) → R (.ok (.ret (.str ⟨#[c]⟩ t'))) { s with heap := h', toks := tk }) PySem.F.slot_str_translate rfl PySem.F.entry_str_translate (PySem.F.args_str_translate_2 _ _) ?_ ⟨hh, hm, h⟩
  refine .of_wp fun A R s x => ?_
  obtain ⟨hh, hm, h⟩ := x
  unfold Builtin.«str.translate»
  have f1 := cps_lt hc
  obtain ⟨hp, g, dd, tk, os⟩ := s
  clear hc
  repeat (first | ((with_reducible show wpAny _ _ (ite _ _ _) _ _ _); refine wpAny_ite_true (decide_eq_true f1) ?_) | ((with_reducible show wpAny _ _ (Str.tableLookup _ _) _ _ _); refine lookup_miss hm hd hh hf ?_; intro h' tk' hk'; (try dsimp only)) | wp_step)
  exact ⟨_, rfl, h _ _ _ hk'⟩
end
end

section
open PySem PySem.W PyProof.Rows PySem.Calls
theorem mapI_K {prog : Program} {w : World} {K : Frag} {h : Heap} {a : Addr} {es : Array DictEntry} {n : Nat} (X : K.In h) (hl : K.lookup a = some ⟨.type "dict", none, .dict es n, #[]⟩) (hk : (es.all fun e => match e.key with | .int k _ => e.hash == hashInt k | _ => false) = true) :
    h.MapOf (intKind prog w) a (fun k => findBy Value.isInt es k) := by
  refine ⟨_, es, n, X _ _ hl, ⟨rfl, rfl, rfl⟩, rfl, fun e he => ?_, fun _ => rfl⟩
  have q := (Array.all_eq_true_iff_forall_mem.mp hk) e he
  split at q
  · rename_i k t hq
    exact ⟨k, by rw [hq]; exact intKind_is prog w k t, beq_iff_eq.mp q⟩
  · cases q
noncomputable def specials : List Nat := [40, 41, 91, 93, 123, 125, 63, 42, 43, 45, 124, 94, 36, 92, 46, 38, 126, 35, 32, 9, 10, 13, 11, 12]
noncomputable def escS (c : Nat) : Str := if specials.contains c = true then ⟨#[92, c]⟩ else ⟨#[c]⟩
noncomputable def escOk (es : Array DictEntry) : Bool := (List.range 128).all fun (c : Nat) => match findBy Value.isInt es (c : Int) with
  | some (.str y _) => y == ⟨#[92, c]⟩ && specials.contains c
  | some _ => false
  | none => !specials.contains c
theorem escOk_hit {es : Array DictEntry} (h : escOk es = true) {c : Nat} (hc : c < 128) (hs : specials.contains c = true) : ∃ u, findBy Value.isInt es (c : Int) = some (.str ⟨#[92, c]⟩ u) := by
  have := List.all_eq_true.mp h c (List.mem_range.mpr hc)
  split at this
  · rename_i y u e
    exact ⟨u, by rw [e, beq_iff_eq.mp (Bool.and_eq_true_iff.mp this).1]⟩
  · cases this
  · rw [hs] at this; cases this
theorem escOk_miss {es : Array DictEntry} (h : escOk es = true) {c : Nat} (hc : c < 128) (hs : specials.contains c = false) : findBy Value.isInt es (c : Int) = none := by
  have := List.all_eq_true.mp h c (List.mem_range.mpr hc)
  split at this
  · rw [hs] at this; simp at this
  · cases this
  · assumption
section
variable {prog : Program} {w : World} {A : Around} {E : Value → Shared → Prop} {s : Shared} {K : Frag} {h₀ : Heap} {L a : Addr} {m : Str → Option Value} {nw : List (Addr × Obj)}
theorem translate_K {es : Array DictEntry} {n : Nat} {c : Nat} {t : Tok} {Q : Value → Shared → Prop} (F : Fr h₀ L s.heap m) (X : K.In h₀) (N : News h₀ L s.heap nw) (hh : A.handled = none) (hl : K.lookup a = some ⟨.type "dict", none, .dict es n, #[]⟩)
    (hk : (es.all fun e => match e.key with | .int k _ => e.hash == hashInt k | _ => false) = true) (ho : escOk es = true) (ha : (a == sysModules) = false) (hc : c < 128)
    (h : ∀ h' t' tk, Fr h₀ L h' m → News h₀ L h' nw → Q (.str (escS c) t') { s with heap := h', toks := tk }) : wpAny (model prog w) A (call (.builtin "str.translate") [.str ⟨#[c]⟩ t, .ref a]) Q E s := by
  have hm : s.heap.MapOf (intKind prog w) a (fun k => findBy Value.isInt es k) := mapI_K (X.keeps F.keep) hl hk
  cases hs : specials.contains c with
  | true =>
    obtain ⟨u, hu⟩ := escOk_hit ho hc hs
    have e : escS c = ⟨#[92, c]⟩ := by unfold escS; rw [if_pos hs]
    exact translate_hit hm hu hc fun t' tk => by rw [← e]; exact h s.heap t' tk F N
  | false =>
    have e : escS c = ⟨#[c]⟩ := by unfold escS; rw [hs]; rfl
    exact translate_miss hm ha hh (escOk_miss ho hc hs) hc fun h' t' tk hk' => by rw [← e]; exact h h' t' tk (F.keeps hk') (N.grown hk')
end
end

section
open PySem PySem.W PyProof.Rows PySem.Calls
inductive OutAre : List Value → List (Option Str) → Prop
  | nil : OutAre [] []
  | star {vs os} : OutAre vs os → OutAre (.none :: vs) (none :: os)
  | text {vs os} (y : Str) (t : Tok) : OutAre vs os → OutAre (.str y t :: vs) (some y :: os)
theorem OutAre.len : ∀ {vs os}, OutAre vs os → vs.length = os.length
  | _, _, .nil => rfl
  | _, _, .star h => congrArg (· + 1) h.len
  | _, _, .text _ _ h => congrArg (· + 1) h.len
theorem OutAre.snocS : ∀ {vs os}, OutAre vs os → OutAre (vs ++ [.none]) (os ++ [none])
  | _, _, .nil => .star .nil
  | _, _, .star h => .star h.snocS
  | _, _, .text y t h => .text y t h.snocS
theorem OutAre.snocT {z : Str} {k : Tok} : ∀ {vs os}, OutAre vs os → OutAre (vs ++ [.str z k]) (os ++ [some z])
  | _, _, .nil => .text z k .nil
  | _, _, .star h => .star h.snocT
  | _, _, .text y t h => .text y t h.snocT
noncomputable def itm (x : Str) (i : Nat) : Str := Txt.item x (i : Int)
noncomputable def isAt (x : Str) (i : Nat) (s : String) : Bool := itm x i == Str.ofString s
/-- the closing bracket, or the end -/
noncomputable def jScan (x : Str) : Nat → Nat → Nat
  | 0, j => j
  | f + 1, j => if j < x.length && !isAt x j "]" then jScan x f (j + 1) else j
noncomputable def jB (x : Str) (i : Nat) : Nat := if i < x.length && isAt x i "!" then i + 1 else i
noncomputable def jC (x : Str) (j : Nat) : Nat := if j < x.length && isAt x j "]" then j + 1 else j
noncomputable def jFrom (x : Str) (i : Nat) : Nat := jScan x (x.length - jC x (jB x i)) (jC x (jB x i))
noncomputable def chunkF (x : Str) (j : Nat) : Nat → Nat → Nat → List Str → Option (Nat × List Str)
  | 0, _, _, _ => none
  | f + 1, i, k, cs => match Builtin.Str.occurrences x (Str.ofString "-") k j 1 with
    | [] => some (i, cs)
    | k' :: _ => if i ≤ k' ∧ k' < j then chunkF x j f (k' + 1) (k' + 3) (cs ++ [Txt.slice x (some (i : Int)) (some (k' : Int))]) else none
noncomputable def subCode : Array Nat := #[14, 14, 4, 1, 1, 9, 0, 64, 0, 1342177280, 0, 0, 0, 0, 0, 17, 0, 13, 11, 9, 0, 64, 0, 1342177280, 0, 0, 0, 0, 0, 17, 1, 1]
noncomputable def repB (y : Str) : Str := Txt.replace y (Str.ofString "\\") (Str.ofString "\\\\")
noncomputable def rep2 (y : Str) : Str := Txt.replace (repB y) (Str.ofString "-") (Str.ofString "\\-")
/-- two neighbours that stand in falling order are made one -/
noncomputable def fallS (a b : Str) : Bool := decide ((Txt.item b 0).cps.toList < (Txt.item a (-1)).cps.toList)
noncomputable def mergeF : List Str → Option (List Str)
  | [] => none
  | [a] => some [a]
  | [a, b] => if a.length = 0 ∨ b.length = 0 then none else
      some (if fallS a b then [Txt.slice a none (some (-1)) ++ Txt.slice b (some 1) none] else [a, b])
  | [a, b, c] => if a.length = 0 ∨ b.length = 0 ∨ c.length = 0 ∨ fallS b c = false ∨ (Txt.slice b none (some (-1)) ++ Txt.slice c (some 1) none).length = 0 ∨ fallS a (Txt.slice b none (some (-1)) ++ Txt.slice c (some 1) none) = true then none else
      some [a, Txt.slice b none (some (-1)) ++ Txt.slice c (some 1) none]
  | _ => none
noncomputable def dashF (x : Str) (i j : Nat) : Option Str :=
  match chunkF x j x.length i (if isAt x i "!" then i + 2 else i + 1) [] with
  | none => none
  | some (i', cs) =>
    let c := Txt.slice x (some (i' : Int)) (some (j : Int))
    match (if c.length = 0 then (match cs with | [l] => some [l ++ Str.ofString "-"] | _ => none) else some (cs ++ [c])) with
    | none => none
    | some cs => match mergeF cs with
      | none => none
      | some cs => some (Txt.join (Str.ofString "-") (cs.map rep2))
noncomputable def endF (y : Str) : Str :=
  if y.length = 0 then Str.ofString "(?!)"
  else if y == Str.ofString "!" then Str.ofString "."
  else if Txt.item y 0 == Str.ofString "!" then Str.ofString "[" ++ (Str.ofString "^" ++ Txt.slice y (some 1) none) ++ Str.ofString "]"
  else if [Str.ofString "^", Str.ofString "["].any (fun x => x == Txt.item y 0) then Str.ofString "[" ++ (Str.ofString "\\" ++ y) ++ Str.ofString "]"
  else Str.ofString "[" ++ y ++ Str.ofString "]"
noncomputable def preF (x : Str) (i j : Nat) : Option Str :=
  if Txt.contains (Txt.slice x (some (i : Int)) (some (j : Int))) (Str.ofString "-") then dashF x i j
  else some (repB (Txt.slice x (some (i : Int)) (some (j : Int))))
noncomputable def subF (y : Str) : Option Str :=
  if y.length ≤ 1000 then (match subGo subCode y 1000 0 false with | none => none | some l => if (l.map (·.length)).sum + l.length ≤ 100000 then some (Txt.join (Str.ofString "") l) else none) else none
noncomputable def stuffF (x : Str) (i j : Nat) : Option Str := match preF x i j with
  | none => none
  | some y => (subF y).map endF
noncomputable def trF (x : Str) : Nat → Nat → List (Option Str) → Option (List (Option Str))
  | 0, _, _ => none
  | f + 1, i, out =>
    if i < x.length then
      if isAt x i "*" then trF x f (i + 1) (if out.getLast? = some none then out else out ++ [none])
      else if isAt x i "?" then trF x f (i + 1) (out ++ [some (Str.ofString "?")])
      else if isAt x i "[" then
        if jFrom x (i + 1) < x.length then (match stuffF x (i + 1) (jFrom x (i + 1)) with | none => none | some y => trF x f (jFrom x (i + 1) + 1) (out ++ [some y]))
        else trF x f (i + 1) (out ++ [some (Str.ofString "\\[")])
      else if (itm x i).cps.getD 0 0 < 128 then trF x f (i + 1) (out ++ [some (escS ((itm x i).cps.getD 0 0))]) else none
    else some out
end

section
open PySem PySem.W PyProof.Rows PySem.Calls
theorem mw_P1_0 : True := by
  k_with_none
  trivial
theorem mw_P1_1 : True := by
  (k_with "call builtin:issubclass" => (k_here; k_dflt (refine' isc_str ?k1 ?_; (case k1 => exact (News.get (by k_asm) (by k_mem))); k_whole)))
  (k_with "Mdrop" => first | assumption | (refine' cb_drop ?cbN ?cbS; (case cbN => assumption); (case cbS => kcj_all)))
  (k_with "Muse" => (
        (case k1 => first | k_asm | ktn_no "use: the frames below")
        (case k2 => first | k_asm | ktn_no "use: the frame")
        (case k3 => first | k_asm | ktn_no "use: the written part")
        (case k4 => first | k_asm | ktn_no "use: the ledger")
        (case k5 => first | k_asm | ktn_no "use: the top's facts")
        (case k6 => first | exact rfl | assumption | ktn_no "use: the caller is no def")
        (case k7 => first | ktr_room | ktn_no "use: the frames' room")
        (case k8 => first | ktr_units | ktn_no "use: the C units")))
  trivial
theorem fspath_does (w : World) (mean : ExcName → Option Value) (mg mb : Str → Option Value) (news : List (Addr × Obj)) (x : Str) (t : Tok) :
  Does PySem.Challenge.rw_rx0110_01.row.prog w (hd.heap_39 w.params) topProg (looseW hd.view_39 [Str.ofString "_twin_re_1", Str.ofString "_special_chars_map"] ++ (recsOf hd.view_39).map (fun x => x.name) ++ (litsOf hd.view_39).map (fun x => x.1) ++ (clssOf hd.view_39 (looseW hd.view_39 [Str.ofString "_twin_re_1", Str.ofString "_special_chars_map"])).map (fun x => x.name)) mean mg mb 111 1 news [Value.str x t] (fun n r => news = n ∧ r = .str x t) := by
  k_fill
  unfold Does
  intro dp un gd cn cs a ccd cl outer A₀ base h₀ L m s Q E B F X N T hk hd hu hret
  refine wpAny_call ?_
  (k_dflt cell_enter)
  k_steps
  all_goals exact hret _ _ _ _ ⟨rfl, rfl⟩ (by assumption) (by walk_at "Mdrop")
theorem get_sep_does (w : World) (mean : ExcName → Option Value) (mg mb : Str → Option Value) (news : List (Addr × Obj)) (x : Str) (t : Tok) :
  Does PySem.Challenge.rw_rx0110_01.row.prog w (hd.heap_39 w.params) topProg (looseW hd.view_39 [Str.ofString "_twin_re_1", Str.ofString "_special_chars_map"] ++ (recsOf hd.view_39).map (fun x => x.name) ++ (litsOf hd.view_39).map (fun x => x.1) ++ (clssOf hd.view_39 (looseW hd.view_39 [Str.ofString "_twin_re_1", Str.ofString "_special_chars_map"])).map (fun x => x.name)) mean mg mb 125 1 news [Value.str x t] (fun n r => news = n ∧ ∃ u, r = .str (Str.ofString "/") u) := by
  k_fill
  unfold Does
  intro dp un gd cn cs a ccd cl outer A₀ base h₀ L m s Q E B F X N T hk hd hu hret
  refine wpAny_call ?_
  (k_dflt cell_enter)
  k_steps
  all_goals exact hret _ _ _ _ ⟨rfl, _, rfl⟩ (by assumption) (by walk_at "Mdrop")
theorem mw_P1_2 : True := by
  (k_with "call ref" => (k_here; k_dflt (refine' Does.use ?k1 ?k2 ?k3 ?k4 ?k5 ?k6 ?k7 ?k8 (fspath_does _ _ _ _ _ _ _) ?_; walk_at "Muse"; k_whole); intro _ _ _ _ hR' _ _; obtain ⟨rfl, rfl⟩ := hR'; (try dsimp only); (try k_fold)))
  trivial
noncomputable def sroot (x : Str) : Str × Str :=
  if (Txt.slice x none (some 1) != Str.ofString "/") = true then (Str.ofString "", x)
  else if (Txt.slice x (some 1) (some 2) != Str.ofString "/") = true then (Str.ofString "/", Txt.slice x (some 1) none)
  else if (Txt.slice x (some 2) (some 3) == Str.ofString "/") = true then (Str.ofString "/", Txt.slice x (some 1) none)
  else (Txt.slice x none (some 2), Txt.slice x (some 2) none)
noncomputable def SrO (news : List (Addr × Obj)) (x : Str) (n : List (Addr × Obj)) (r : Value) : Prop :=
  ∃ (D : Addr) (t1 t2 t3 : Tok), r = .ref D ∧ n = (D, { cls := .type "tuple", data := .seq #[.str (Str.ofString "") t1, .str (sroot x).1 t2, .str (sroot x).2 t3] }) :: news ∧ AllLt D news
theorem sr_mk {news : List (Addr × Obj)} {x a b : Str} {D : Addr} {t1 t2 t3 : Tok} (e : sroot x = (a, b)) (l : ∀ p ∈ news, p.1 < D) :
    SrO news x ((D, { cls := .type "tuple", data := .seq #[.str (Str.ofString "") t1, .str a t2, .str b t3] }) :: news) (.ref D) := ⟨D, t1, t2, t3, rfl, by rw [e], allLt_of l⟩
theorem splitroot_does (w : World) (mean : ExcName → Option Value) (mg mb : Str → Option Value) (news : List (Addr × Obj)) (x : Str) (t : Tok) (hx : x.length ≤ 100000) :
  Does PySem.Challenge.rw_rx0110_01.row.prog w (hd.heap_39 w.params) topProg (looseW hd.view_39 [Str.ofString "_twin_re_1", Str.ofString "_special_chars_map"] ++ (recsOf hd.view_39).map (fun x => x.name) ++ (litsOf hd.view_39).map (fun x => x.1) ++ (clssOf hd.view_39 (looseW hd.view_39 [Str.ofString "_twin_re_1", Str.ofString "_special_chars_map"])).map (fun x => x.name)) mean mg mb 146 2 news [Value.str x t] (SrO news x) := by
  k_fill
  unfold Does
  intro dp un gd cn cs a ccd cl outer A₀ base h₀ L m s Q E B F X N T hk hd hu hret
  refine wpAny_call ?_
  (k_dflt cell_enter)
  k_steps
  all_goals (refine hret _ _ _ _ (sr_mk ?_ (by assumption)) (by assumption) (by assumption); clear hret; simp only [sroot, *, if_true, if_false, Bool.false_eq_true])
theorem mw_P1_3 : True := by
  (k_with "call ref" => (k_here; k_dflt (refine' Does.use ?k1 ?k2 ?k3 ?k4 ?k5 ?k6 ?k7 ?k8 (splitroot_does _ _ _ _ _ _ _ (by omega)) ?_; walk_at "Muse"; k_whole); intro _ _ _ _ hR' _ _; obtain ⟨_, _, _, _, rfl, rfl, _⟩ := hR'; (try dsimp only); (try k_fold)))
  trivial
end

section
open PySem PySem.W PyProof.Rows PySem.Calls
section
variable {prog : Program} {w : World} {A : Around} {E : Value → Shared → Prop} {s : Shared} {h₀ : Heap} {L D : Addr} {m : Str → Option Value} {nw nw' : List (Addr × Obj)} {vs ws : List Value} {v : Value} {n : Nat}
theorem tru_snoc {Q : Bool → Shared → Prop} (N : News h₀ L s.heap nw) (hm : (D, listOf (ws ++ [v]).toArray n) ∈ nw) (hb : ws.length ≤ 1000000)
    (h : Q true { s with toks := s.toks + 1 + 1 }) : wpAny (model prog w) A (truthy (.ref D)) Q E s :=
  wpAny_truthy_list (lst_at N hm) (by rw [List.size_toArray]; simp; lia) (by
    have e : (!(ws ++ [v]).toArray.isEmpty) = true := by cases ws <;> simp
    rw [e]; exact h)
theorem item_snoc {value slice : Expr} {u : Tok} {Q : Value → Shared → Prop} (N : News h₀ L s.heap nw) (hm : (D, listOf (ws ++ [v]).toArray n) ∈ nw) (hb : ws.length ≤ 1000000)
    (h : Q v s)
    (hs : subscripted slice false (.ref D) (.int (-1) u) = operate [.ref D, .int (-1) u] (getItem (.ref D) (.int (-1) u)) := by with_unfolding_all rfl) :
    wpAny (model prog w) A (subscriptTail value slice (.ref D) (.int (-1) u)) Q E s := by
  have hl := lst_at N hm
  refine tail_any hl.typeIs slot_list_getitem.lookup (wpAny_getItem_list_neg hl (by lia) (by rw [List.size_toArray, List.length_append]; simp; lia) (by lia) (x := v) ?_ h) hs
  rw [List.size_toArray, List.length_append, List.length_singleton]
  have e : ((-1 : Int) + ((ws.length + 1 : Nat) : Int)).toNat = ws.length := by lia
  rw [e]
  simp
theorem bnd_of {B : Addr} {h : Heap} (N : News h₀ L h nw) (hm : (B, bndApp D) ∈ nw) : BndAt B D h := N.get hm
end
theorem out_cases {vs : List Value} {out : List (Option Str)} (h : OutAre vs out) : (vs = [] ∧ out = []) ∨ (∃ ws os, vs = ws ++ [.none] ∧ out = os ++ [none] ∧ OutAre ws os) ∨ ∃ ws os y t, vs = ws ++ [.str y t] ∧ out = os ++ [some y] ∧ OutAre ws os := by
  induction h with
  | nil => exact .inl ⟨rfl, rfl⟩
  | star h ih =>
    rcases ih with ⟨rfl, rfl⟩ | ⟨ws, os, rfl, rfl, h'⟩ | ⟨ws, os, y, t, rfl, rfl, h'⟩
    · exact .inr (.inl ⟨[], [], rfl, rfl, .nil⟩)
    · exact .inr (.inl ⟨_, _, rfl, rfl, .star h'⟩)
    · exact .inr (.inr ⟨_, _, y, t, rfl, rfl, .star h'⟩)
  | text z k h ih =>
    rcases ih with ⟨rfl, rfl⟩ | ⟨ws, os, rfl, rfl, h'⟩ | ⟨ws, os, y, t, rfl, rfl, h'⟩
    · exact .inr (.inr ⟨[], [], z, k, rfl, rfl, .nil⟩)
    · exact .inr (.inl ⟨_, _, rfl, rfl, .text z k h'⟩)
    · exact .inr (.inr ⟨_, _, y, t, rfl, rfl, .text z k h'⟩)
theorem str_one {y : Str} (h : 1 ≤ y.length ∧ y.length ≤ 1) : y = ⟨#[y.cps.getD 0 0]⟩ := by
  obtain ⟨a⟩ := y
  have h1 : a.size = 1 := Nat.le_antisymm h.2 h.1
  congr 1
  apply Array.ext
  · simp [h1]
  · intro i h2 h3
    have : i = 0 := by lia
    subst this
    simp [h2]
section
variable {x : Str} {f i : Nat} {out fin : List (Option Str)}
theorem trF_star (hf : trF x (f + 1) i out = some fin) (hi : (i : Int) < x.length) (h : (Txt.item x (i : Int) == Str.ofString "*") = true) : trF x f (i + 1) (if out.getLast? = some none then out else out ++ [none]) = some fin := by
  have q1 : isAt x i "*" = true := h
  unfold trF at hf; rw [if_pos (by lia), q1, if_pos rfl] at hf; exact hf
theorem trF_q (hf : trF x (f + 1) i out = some fin) (hi : (i : Int) < x.length) (h : (Txt.item x (i : Int) == Str.ofString "*") = false) (h2 : (Txt.item x (i : Int) == Str.ofString "?") = true) : trF x f (i + 1) (out ++ [some (Str.ofString "?")]) = some fin := by
  have q1 : isAt x i "*" = false := h
  have q2 : isAt x i "?" = true := h2
  unfold trF at hf; rw [if_pos (by lia), q1, q2, if_neg Bool.false_ne_true, if_pos rfl] at hf; exact hf
theorem trF_open (hf : trF x (f + 1) i out = some fin) (hi : (i : Int) < x.length) (h : (Txt.item x (i : Int) == Str.ofString "*") = false) (h2 : (Txt.item x (i : Int) == Str.ofString "?") = false) (h3 : (Txt.item x (i : Int) == Str.ofString "[") = true) :
    (if jFrom x (i + 1) < x.length then (match stuffF x (i + 1) (jFrom x (i + 1)) with | none => none | some y => trF x f (jFrom x (i + 1) + 1) (out ++ [some y])) else trF x f (i + 1) (out ++ [some (Str.ofString "\\[")])) = some fin := by
  have q1 : isAt x i "*" = false := h
  have q2 : isAt x i "?" = false := h2
  have q3 : isAt x i "[" = true := h3
  unfold trF at hf; rw [if_pos (by lia), q1, q2, q3, if_neg Bool.false_ne_true, if_neg Bool.false_ne_true, if_pos rfl] at hf; exact hf
theorem trF_chr (hf : trF x (f + 1) i out = some fin) (hi : (i : Int) < x.length) (h : (Txt.item x (i : Int) == Str.ofString "*") = false) (h2 : (Txt.item x (i : Int) == Str.ofString "?") = false) (h3 : (Txt.item x (i : Int) == Str.ofString "[") = false) :
    (Txt.item x (i : Int)).cps.getD 0 0 < 128 ∧ trF x f (i + 1) (out ++ [some (escS ((Txt.item x (i : Int)).cps.getD 0 0))]) = some fin := by
  have q1 : isAt x i "*" = false := h
  have q2 : isAt x i "?" = false := h2
  have q3 : isAt x i "[" = false := h3
  unfold trF at hf; rw [if_pos (by lia), q1, q2, q3, if_neg Bool.false_ne_true, if_neg Bool.false_ne_true, if_neg Bool.false_ne_true] at hf
  split at hf
  · rename_i hc; exact ⟨hc, hf⟩
  · cases hf
theorem trF_done (hf : trF x (f + 1) i out = some fin) (hi : ¬ (i : Int) < x.length) : out = fin := by
  unfold trF at hf; rw [if_neg (by lia)] at hf; exact Option.some.inj hf
end
section
variable {x : Str} {i j : Nat}
theorem jB_ge (h : ¬ (i : Int) + 1 < x.length) : jB x (i + 1) = i + 1 := by
  unfold jB; rw [decide_eq_false (by lia)]; rfl
theorem jB_no (h : (Txt.item x ((i : Int) + 1) == Str.ofString "!") = false) : jB x (i + 1) = i + 1 := by
  have q : isAt x (i + 1) "!" = false := h
  unfold jB; rw [q, Bool.and_false]; rfl
theorem jB_yes (h : (i : Int) + 1 < x.length) (h2 : (Txt.item x ((i : Int) + 1) == Str.ofString "!") = true) : jB x (i + 1) = i + 1 + 1 := by
  have q : isAt x (i + 1) "!" = true := h2
  unfold jB; rw [q, decide_eq_true (by lia)]; rfl
theorem jC_ge (h : ¬ (j : Int) < x.length) : jC x j = j := by
  unfold jC; rw [decide_eq_false (by lia)]; rfl
theorem jC_no (h : (Txt.item x (j : Int) == Str.ofString "]") = false) : jC x j = j := by
  have q : isAt x j "]" = false := h
  unfold jC; rw [q, Bool.and_false]; rfl
theorem jC_yes (h : (j : Int) < x.length) (h2 : (Txt.item x (j : Int) == Str.ofString "]") = true) : jC x j = j + 1 := by
  have q : isAt x j "]" = true := h2
  unfold jC; rw [q, decide_eq_true (by lia)]; rfl
theorem jB_le (h : i ≤ x.length) : i ≤ jB x i ∧ jB x i ≤ x.length := by
  unfold jB; split
  · rename_i q; have := of_decide_eq_true (Bool.and_eq_true_iff.mp q).1; lia
  · lia
theorem jC_le (h : i ≤ x.length) : i ≤ jC x i ∧ jC x i ≤ x.length := by
  unfold jC; split
  · rename_i q; have := of_decide_eq_true (Bool.and_eq_true_iff.mp q).1; lia
  · lia
theorem jScan_ge (h : ¬ (j : Int) < x.length) : jScan x (x.length - j) j = j := by
  have : x.length - j = 0 := by lia
  rw [this]; rfl
theorem jScan_stop (h2 : (Txt.item x (j : Int) == Str.ofString "]") = true) : jScan x (x.length - j) j = j := by
  have q : isAt x j "]" = true := h2
  cases x.length - j with
  | zero => rfl
  | succ f => unfold jScan; rw [q, Bool.not_true, Bool.and_false]; rfl
theorem jScan_on (h : (j : Int) < x.length) (h2 : (Txt.item x (j : Int) == Str.ofString "]") = false) : jScan x (x.length - j) j = jScan x (x.length - (j + 1)) (j + 1) := by
  have q : isAt x j "]" = false := h2
  have e : x.length - j = x.length - (j + 1) + 1 := by lia
  rw [e]
  conv => lhs; unfold jScan
  rw [q, decide_eq_true (by lia)]; rfl
theorem jScan_onB (h : (j : Int) < x.length) (h2 : (!(Txt.item x (j : Int) == Str.ofString "]")) = true) : jScan x (x.length - j) j = jScan x (x.length - (j + 1)) (j + 1) := jScan_on h (by simpa using h2)
theorem jScan_stopB (h2 : (!(Txt.item x (j : Int) == Str.ofString "]")) = false) : jScan x (x.length - j) j = j := jScan_stop (by simpa using h2)
end
theorem meetJ {o : OsState} {h₀ : Heap} {L : Addr} {Led : Nat × Tok → List (Addr × Obj)} {stored : List Str} {m₀ m' : Str → Option Value} {P : Nat × Tok → Prop} {s₂ : Shared} {nw : List (Addr × Obj)} {jv : Int} {t : Tok} (j : Nat) (F : Fr h₀ L s₂.heap m') (N : News h₀ L s₂.heap nw)
    (hn : ∀ p ∈ Led (j, t), p ∈ nw) (hk : m' (Str.ofString "j") = some (.int jv t)) (hv : jv = (j : Int)) (hr : ∀ z, z ≠ Str.ofString "j" → m' z = m₀ z) (hp : P (j, t))
    (hB : Bare o s₂ := by first | assumption | exact And.right (by assumption)) :
    MeetAt o h₀ L Led (fun c => [(Str.ofString "j", .int (c.1 : Int) c.2)]) stored m₀ P s₂ := by
  subst hv
  exact meet (j, t) F N hn (List.forall_mem_cons.mpr ⟨hk, fun _ h => nomatch h⟩) (fun z hz _ => hr z (hz _ (.head _))) hp
theorem pre_of {x : Str} {i j : Nat} {f : Nat} {out fin : List (Option Str)} (h : (match stuffF x i j with | none => none | some y => trF x f (j + 1) (out ++ [some y])) = some fin) :
    ∃ y z, preF x i j = some y ∧ subF y = some z ∧ trF x f (j + 1) (out ++ [some (endF z)]) = some fin := by
  unfold stuffF at h
  cases hp : preF x i j with
  | none => rw [hp] at h; cases h
  | some y =>
    rw [hp] at h
    dsimp only at h
    cases hs : subF y with
    | none => rw [hs] at h; cases h
    | some z => rw [hs] at h; exact ⟨y, z, rfl, hs, h⟩
theorem pre_plain {x y : Str} {i j : Nat} (h : preF x i j = some y) (hc : Txt.contains (Txt.slice x (some (i : Int)) (some (j : Int))) (Str.ofString "-") = false) : y = repB (Txt.slice x (some (i : Int)) (some (j : Int))) := by
  unfold preF at h
  rw [hc, if_neg Bool.false_ne_true] at h
  exact (Option.some.inj h).symm
theorem pre_dash {x y : Str} {i j : Nat} (h : preF x i j = some y) (hc : Txt.contains (Txt.slice x (some (i : Int)) (some (j : Int))) (Str.ofString "-") = true) : dashF x i j = some y := by
  unfold preF at h
  rw [hc, if_pos rfl] at h
  exact h
theorem sub_of {y z : Str} (h : subF y = some z) : y.length ≤ 1000 ∧ ∃ l, subGo subCode y 1000 0 false = some l ∧ (l.map (·.length)).sum + l.length ≤ 100000 ∧ z = Txt.join (Str.ofString "") l := by
  unfold subF at h
  split at h
  · rename_i hl
    cases hg : subGo subCode y 1000 0 false with
    | none => rw [hg] at h; cases h
    | some l =>
      rw [hg] at h
      dsimp only at h
      split at h
      · rename_i hs; exact ⟨hl, l, rfl, hs, (Option.some.inj h).symm⟩
      · cases h
  · cases h
section
variable {z : Str}
theorem endF_nil (h : (z.length : Int) = 0) : Str.ofString "(?!)" = endF z := by
  unfold endF; rw [if_pos (by lia)]
theorem endF_dot (h : (z.length : Int) ≠ 0) (h2 : (z == Str.ofString "!") = true) : Str.ofString "." = endF z := by
  unfold endF; rw [if_neg (by lia), if_pos h2]
theorem endF_not (h : (z.length : Int) ≠ 0) (h2 : (z == Str.ofString "!") = false) (h3 : (Txt.item z 0 == Str.ofString "!") = true) : Str.empty ++ Str.ofString "[" ++ (Str.ofString "^" ++ Txt.slice z (some 1) none) ++ Str.ofString "]" = endF z := by
  unfold endF; rw [if_neg (by lia), h2, h3, if_neg Bool.false_ne_true, if_pos rfl]; rfl
theorem endF_esc (h : (z.length : Int) ≠ 0) (h2 : (z == Str.ofString "!") = false) (h3 : (Txt.item z 0 == Str.ofString "!") = false) (h4 : ([Str.ofString "^", Str.ofString "["].any fun x => x == Txt.item z 0) = true) : Str.empty ++ Str.ofString "[" ++ (Str.ofString "\\" ++ z) ++ Str.ofString "]" = endF z := by
  unfold endF; rw [if_neg (by lia), h2, h3, h4, if_neg Bool.false_ne_true, if_neg Bool.false_ne_true, if_pos rfl]; rfl
theorem endF_plain (h : (z.length : Int) ≠ 0) (h2 : (z == Str.ofString "!") = false) (h3 : (Txt.item z 0 == Str.ofString "!") = false) (h4 : ([Str.ofString "^", Str.ofString "["].any fun x => x == Txt.item z 0) = false) : Str.empty ++ Str.ofString "[" ++ z ++ Str.ofString "]" = endF z := by
  unfold endF; rw [if_neg (by lia), h2, h3, h4, if_neg Bool.false_ne_true, if_neg Bool.false_ne_true, if_neg Bool.false_ne_true]; rfl
end
end

section
open PySem PySem.W PyProof.Rows PySem.Calls
section
variable {prog : Program} {w : World} {M : Model} {A : Around} {E : Value → Shared → Prop} {s : Shared} {K : Frag} {h₀ : Heap} {L a c P : Addr} {m mg mb : Str → Option Value} {cn : Str} {cs : Scope} {ccd : Value} {cl : List (Str × Addr)} {mid ex rest : List (Addr × Obj)}
  {p : Program} {loose : List Str} {mean : ExcName → Option Value} {name qual : Str} {params : Arguments} {body : Expr} {scope : Scope} {ps : Array Value} {pos : Pos} {firstLine : Nat} {clos : List (Str × Addr)}
theorem subMethod_K {data : Data} {sl : Array (Option Value)} {b : Addr} {pl : Sem Bool} {Q : Value × List Value → Shared → Prop} (F : Fr h₀ L s.heap m) (X : K.In h₀) (hl : K.lookup b = some ⟨.type "re.Pattern", none, data, sl⟩)
    (h : Q (.builtin "re.Pattern.sub", [.ref b]) s) : wpAny (model prog w) A (getMethod (.ref b) (Str.ofString "sub") pl) Q E s :=
  getMethod_builtin ⟨_, F.keep _ _ (X _ _ hl), rfl⟩ plain_pattern slot_sub type_sub (fun a e => by cases e; exact ⟨_, F.keep _ _ (X _ _ hl), rfl⟩) h
theorem updF_head {o : Obj} {l : List (Addr × Obj)} (h : ∀ q ∈ l, q.1 ≠ P) : UpdF P o ((P, o) :: l) (fun o' => (P, o') :: l) := .head h
theorem among_snoc_ne {pos pos' : Pos} {c' : Value} (hne : ¬ (pos'.line = pos.line ∧ pos'.col = pos.col)) (l : List Value) (h : TriplesOk l) : codeAmong pos (l ++ [rawInt pos'.line, rawInt pos'.col, c']) = codeAmong pos l := by
  fun_induction TriplesOk l with
  | case1 =>
    simp only [List.nil_append, codeAmong, rawInt]
    split
    · rename_i h
      simp only [Bool.and_eq_true, beq_iff_eq, Int.ofNat_inj] at h
      exact absurd h hne
    · rfl
  | case2 a t b u x rest ih =>
    simp only [List.cons_append, codeAmong]
    split
    · rfl
    · exact ih h
  | case3 l h1 h2 => exact h.elim
theorem snoc_toList (ps : Array Value) (x y z : Value) : (ps ++ #[x, y, z]).toList = ps.toList ++ [x, y, z] := by simp
/-- the table stays good when another code is booked -/
theorem TabOk.other {pos pos' : Pos} {qual : Str} {led : List (Addr × Obj)} {ps : Array Value} {c' : Addr} (h : TabOk pos qual led ps) (hne : ¬ (pos'.line = pos.line ∧ pos'.col = pos.col)) : TabOk pos qual led (ps ++ #[rawInt pos'.line, rawInt pos'.col, .ref c']) := by
  refine ⟨by rw [snoc_toList]; exact TriplesOk_snoc _ _ _ _ h.tri, ?_⟩
  rw [snoc_toList, among_snoc_ne hne _ h.tri]
  exact h.lam
theorem lam_K {Q : Value → Shared → Prop} (F : Fr h₀ L s.heap m) (N : News h₀ L s.heap ((P, tabObj ps) :: (mid ++ (ex ++ rest)))) (hne : ∀ q ∈ mid ++ (ex ++ rest), q.1 ≠ P) (T : Top p loose mean mg mb h₀) (C : CodeHd h₀ c P) (hcd : ccd = .ref c)
    (hT : TabOk pos qual (ex ++ rest) ps) (hcl : closureFor scope (envX cn cs L a ccd cl) = pure clos)
    (h : ∀ f c' oc vs t ctv h' tk ps' ex', Fr h₀ L h' m → News h₀ L h' ((f, kla_obj name qual params body scope clos ((mg "__name__").getD .none) c' ctv) :: (P, tabObj ps') :: (mid ++ (ex' ++ rest))) → TabOk pos qual (ex' ++ rest) ps' →
      (∀ q ∈ ex', q ∈ ex ∨ ∀ z ∈ (P, tabObj ps) :: (mid ++ (ex ++ rest)), z.1 < q.1) → (c', oc) ∈ ex' ++ rest → oc.data = .fields vs → vs[1]? = some (.str qual t) → (∀ z ∈ (P, tabObj ps) :: (mid ++ (ex ++ rest)), z.1 < f) → Q (.ref f) { s with heap := h', toks := tk }) :
    wpAny M A (makeFunction name qual params (.expr body) scope (envX cn cs L a ccd cl) [] [] [] pos firstLine) Q E s := by
  rcases hT.lam with hf | ⟨c', oc, vs, t, hf, hm, hd, hv⟩
  · refine kla_nest F N T C hcd (updF_head hne) hT.tri hf hcl fun f c' oc vs t ctv h' tk F' N' hd hv hlt hcf => ?_
    have hN : News h₀ L h' ((f, kla_obj name qual params body scope clos ((mg "__name__").getD .none) c' ctv) :: (P, tabObj (ps ++ #[rawInt pos.line, rawInt pos.col, .ref c'])) :: (mid ++ (((c', oc) :: ex) ++ rest))) := fun q hq => by
      refine N' q ?_
      simp only [List.mem_cons, List.mem_append] at hq ⊢
      rcases hq with h | h | h | (h | h) | h <;> simp [h]
    refine h f c' oc vs t ctv h' tk _ ((c', oc) :: ex) F' hN ⟨?_, .inr ⟨c', oc, vs, t, ?_, ?_, hd, hv⟩⟩ (fun q hq => ?_) (List.mem_append_left _ (.head _)) hd hv (fun z hz => Nat.lt_trans (hlt z hz) hcf)
    · rw [snoc_toList]; exact TriplesOk_snoc _ _ _ _ hT.tri
    · rw [snoc_toList]; exact codeAmong_snoc _ hT.tri hf
    · exact List.mem_append_left _ (.head _)
    · rcases List.mem_cons.mp hq with rfl | hq
      · exact .inr hlt
      · exact .inl hq
  · refine kla_hit F N T C hcd (.head _) hT.tri hf hcl fun f ctv h' tk F' N' hlt => ?_
    exact h f c' oc vs t ctv h' tk ps ex F' N' hT (fun q hq => .inl hq) hm hd hv hlt
end
end

section
open PySem PySem.W PyProof.Rows PySem.Calls PySem.Builtin.Re
section
variable {prog : Program} {w : World} {A : Around} {E : Value → Shared → Prop} {s : Shared} {h₀ : Heap} {L a tp p : Addr} {m : Str → Option Value} {nw : List (Addr × Obj)} {x : Str} {tx u : Tok} {lim b0 e0 b e : Nat} {li : Int}
theorem groupMethod_K {pl : Sem Bool} {Q : Value × List Value → Shared → Prop} (N : News h₀ L s.heap nw) (hm : (a, mobj p x tx lim li tp) ∈ nw)
    (h : Q (.builtin "re.Match.group", [.ref a]) s) : wpAny (model prog w) A (getMethod (.ref a) (Str.ofString "group") pl) Q E s :=
  getMethod_builtin ⟨_, N.get hm, rfl⟩ plain_match slot_group type_group (fun a e => by cases e; exact ⟨_, N.get hm, rfl⟩) h
theorem group_K {Q : Value → Shared → Prop} (N : News h₀ L s.heap nw) (hm : (a, mobj p x tx lim li tp) ∈ nw) (ht : (tp, mtup b0 e0 b e) ∈ nw) (hx : x.length ≤ 100000)
    (h : ∀ t', (⟨x.cps.extract b e⟩ : Str).length ≤ 100000 → Q (.str ⟨x.cps.extract b e⟩ t') { s with toks := s.toks + 1 }) : wpAny (model prog w) A (call (.builtin "re.Match.group") [.ref a, .int 1 u]) Q E s := by
  have hT : s.TypeIs (.ref a) "re.Match" := ⟨_, N.get hm, rfl⟩
  refine wpAny_call (codeAny_call_builtin slot_group.plain entry_group (slot_group.check _ _ _ _ _ _ _ _ hT (args_group _ _) ?_))
  unfold Builtin.«re.Match.group»
  refine wpAny_bind (wpAny_of_eq (a := ()) rfl ?_)
  show wpAny _ _ (reFound (.ref a) >>= _) _ _ s
  have hz1 : ∀ Q' : ReFound → Shared → Prop, Q' ⟨#[.str x tx, .ref p, rawInt (0 : Nat), rawInt lim, rawInt li, .ref tp], #[(b0 : Int), e0, b, e]⟩ s → ∀ A' E', wpAny (model prog w) A' (reFound (.ref a)) Q' E' s := fun Q' hq A' E' => by
    unfold reFound
    refine wpAny_bind (wpAny_fieldsOf (N.get hm) rfl ?_)
    unfold reRawItems
    refine wpAny_bind (wpAny_bind (wpAny_seqItems (N.get ht) rfl (wpAny_pure (wpAny_pure ?_))))
    have e9 : Array.map reRawOf ((some #[rawInt (b0 : Int), rawInt e0, rawInt b, rawInt e]).getD #[]) = #[(b0 : Int), e0, b, e] := by simp [reRawOf, rawInt]
    rw [e9]
    exact hq
  refine wpAny_bind (hz1 _ ?_ _ _)
  dsimp only
  have hg : reGroupNumber ⟨#[.str x tx, .ref p, rawInt (0 : Nat), rawInt lim, rawInt li, .ref tp], #[(b0 : Int), e0, b, e]⟩ (.int 1 u) = pure 1 := by
    unfold reGroupNumber
    rfl
  rw [hg]
  refine wpAny_bind (wpAny_pure ?_)
  unfold reGroupText
  have hb : ((b : Int) < 0 || (e : Int) < 0) = false := by
    simp
  show wpAny _ _ ((if ((b : Int) < 0 || (e : Int) < 0) = true then pure .none else _) >>= _) _ _ s
  rw [hb, if_neg Bool.false_ne_true]
  refine wpAny_bind ?_
  have ht2 : reTextOf (.str x tx) = pure (x.cps, 0) := rfl
  show wpAny _ _ (reTextOf (.str x tx) >>= _) _ _ s
  rw [ht2]
  refine wpAny_bind (wpAny_pure ?_)
  show wpAny _ _ (mkStr ⟨x.cps.extract b e⟩) _ _ s
  have hle : (⟨x.cps.extract b e⟩ : Str).length ≤ 100000 := by
    have : (x.cps.extract b e).size ≤ x.cps.size := by simp; lia
    exact Nat.le_trans this hx
  refine wpAny_mkStr (wpAny_pure (h _ hle)) ?_
  rw [sizeLine_eq]
  lia
end
end

section
open PySem PySem.W PyProof.Rows PySem.Calls PySem.Builtin PySem.Builtin.Str
theorem args_find4 (a b c d : Value) : argsOk "str.find" ⟨[a, b, c, d], []⟩ := by unfold argsOk; kernel_rfl
theorem gives_find4 (x y : Str) (i j : Nat) (t u v w : Tok) (hj : j ≤ x.length) : Gives («str.find» ⟨[.str x t, .str y u, .int (i : Int) v, .int (j : Int) w], []⟩) (.int (match occurrences x y i j 1 with | k :: _ => (k : Int) | [] => -1)) := by
  have e : «str.find» ⟨[.str x t, .str y u, .int (i : Int) v, .int (j : Int) w], []⟩ = (match occurrences x y (fromIndex x.length i) (min (fromIndex x.length j) x.length) 1 with | k :: _ => retInt k | [] => (do rule "str.find.not-found"; retInt (-1))) := rfl
  have e1 : fromIndex x.length (i : Int) = i := by unfold fromIndex; rw [if_neg (int_nn i)]; exact max0_nat i
  have e2 : fromIndex x.length (j : Int) = j := by unfold fromIndex; rw [if_neg (int_nn j)]; exact max0_nat j
  rw [e, e1, e2, Nat.min_eq_left hj]
  cases occurrences x y i j 1 with
  | nil => exact .rule (.of_eq rfl)
  | cons k _ => exact .of_eq rfl
section
variable {prog : Program} {w : World} {A : Around} {E : Value → Shared → Prop} {s : Shared} {x y : Str} {t u v1 v2 : Tok} {i j : Nat} {Q : Value → Shared → Prop}
theorem find4 (hj : j ≤ x.length) (hq : Q (.int (match occurrences x y i j 1 with | k :: _ => (k : Int) | [] => -1) s.toks) { s with toks := s.toks + 1 }) : wpAny (model prog w) A (call (.builtin "str.find") [.str x t, .str y u, .int (i : Int) v1, .int (j : Int) v2]) Q E s :=
  call_gives PySem.F.slot_str_find (typeIs_str _ _ _) PySem.F.entry_str_find (args_find4 _ _ _ _) (gives_find4 x y i j t u v1 v2 hj) hq
end
end

section
open PySem PySem.W PyProof.Rows PySem.Calls PySem.Spec
/-! a generator expression whose element may lean on tokens being made already -/
section
variable {prog : Program} {w : World} {A : Around}
noncomputable def EltT (prog : Program) (w : World) (cenv : Env) (x : Str) (elt : Expr) (P : Nat → Value → Prop) (F : Nat → Value → Prop) : Prop :=
  ∀ (A' : Around) E' i v (s₂ : Shared) m₂, A'.handled = none → P i v → 0 < s₂.toks → s₂.heap.Ns cenv.locals m₂ → m₂ x = some v →
    wpAny (model prog w) A' (eval elt cenv) (fun y s₃ => F i y ∧ Keeps s₂ s₃) E' s₂
theorem loopT {elt iter : Expr} {x : Str} {px : Pos} {scope : Scope} {pos : Pos} {I : Addr} {fp wr : List Addr} {n : Nat} {P : Nat → Value → Prop} {St₀ : Nat → Heap → Prop} {cenv : Env}
    (hh : A.handled = none) (W₀ : ∀ A' : Around, A'.handled = none → Walks prog w A' I fp wr n P St₀) (F : Nat → Value → Prop)
    (hx : cenv.kindOf x = some .local) (hp : (cenv.scope.kind == .class || (cenv.scope.kind == .module && cenv.locals != cenv.globals)) = false)
    (hco : cenv.scope.isCoroutine = false) (hCf : cenv.locals ∉ fp) (hq : EltT prog w cenv x elt P F) :
    ∀ (k i : Nat) (s₀ s : Shared) (m : Str → Option Value), n - i = k → i ≤ n → St₀ i s.heap → s.heap.Ns cenv.locals m → GenSince cenv.locals wr s₀ s →
      Seg (model prog w) A (fun n s₀ r s₁ => r = .ok .next ∧ (n = 0 ∧ GenSince cenv.locals wr s₀ s₁)) (genProto cenv.locals fp wr (fun _ => true) n F) (passing (fun _ => true) n i).length s₀
        (.compLoop (.GeneratorExp elt [⟨.Name x px, iter, [], 0⟩] scope pos) 0 (.ref I) .none cenv)
        ((model prog w).den (.compLoop (.GeneratorExp elt [⟨.Name x px, iter, [], 0⟩] scope pos) 0 (.ref I) .none cenv)) [] s := by
  have hh' : (A.over (.compLoop (.GeneratorExp elt [⟨.Name x px, iter, [], 0⟩] scope pos) 0 (.ref I) .none cenv) []).handled = none := hh
  have hCw : cenv.locals ∉ wr := fun h => hCf ((W₀ A hh).sub _ h)
  intro k
  induction k with
  | zero =>
    intro i s₀ s m hk hi hst hn hsince
    obtain rfl : n = i := by lia
    rw [passing_end]
    show Seg _ A _ _ _ s₀ _ ((compTurn (.GeneratorExp elt [⟨.Name x px, iter, [], 0⟩] scope pos) 0 (.ref I) .none cenv).onRaise (leaving cenv)) [] s
    rw [compTurn_gen, Sem.onRaise_eq_wrap]
    refine seg_bind_wrap (wpAny_standAt (seg_bind_wrap ((W₀ _ hh').done s _ _ hst fun h' tk hk' => ?_)))
    exact seg_end (.ok .next) ⟨rfl, rfl, hsince.step fun b o _ hw e => hk' b o hw e⟩
  | succ k ih =>
    intro i s₀ s m hk hi hst hn hsince
    have hlt : i < n := by lia
    rw [passing_true hlt rfl, List.length_cons]
    show Seg _ A _ _ _ s₀ _ ((compTurn (.GeneratorExp elt [⟨.Name x px, iter, [], 0⟩] scope pos) 0 (.ref I) .none cenv).onRaise (leaving cenv)) [] s
    rw [compTurn_gen, Sem.onRaise_eq_wrap]
    refine seg_bind_wrap (wpAny_standAt (seg_bind_wrap ((W₀ _ hh').item i s _ _ hlt hst fun v h₁ tk₁ hPv hst₁ hk₁ => ?_)))
    refine seg_bind_wrap (wpAny_of_eq (rfl : letOwnedTupleGo (.Name x px) (.ref I) v = pure ()) ?_)
    refine seg_bind_wrap (wpAny_assign_Name (wpAny_storeName_local hx (hn.at' fun o e => hk₁ _ o hCw e) (fun h₂ hn₂ hs₂ => ?_) hp))
    have up : ∀ b o, b ≠ cenv.locals → b ∉ wr → s.heap.get? b = some o → h₂.get? b = some o := fun b o hb hw e => hs₂.extBut b o hb (hk₁ b o hw e)
    have hst₂ : St₀ (i + 1) h₂ := (W₀ A hh).frame _ _ _ hst₁ fun b hb o e => hs₂.extBut b o (fun h => hCf (h ▸ hb)) e
    refine seg_bind_wrap (wpAny_pure ?_)
    simp only [if_true]
    have hy : ∀ v, yieldOut cenv v = yieldValue v := fun v => by simp only [yieldOut, hco, Bool.false_eq_true, if_false]
    simp only [hy]
    rw [Sem.bind_eq_wrap', Sem.bind_eq_wrap', Sem.wrap_wrap, Sem.wrap_wrap]
    refine seg_wrap (wpAny_mono (hq _ _ i v _ _ hh' hPv (Nat.succ_pos tk₁) hn₂ (by simp)) (fun y s₄ h₄ => ?_) fun _ _ e => e)
    refine Classical.byContradiction fun hng9 => ?_
    obtain ⟨hF, h₄, tk₄, rfl, hk₄⟩ := h₄
    refine hng9 ?_
    clear hng9
    refine seg_at (seg_yield rfl rfl rfl ⟨⟨i, passing_here hlt rfl, hF⟩, hsince.step fun b o hb hw e => hk₄ b o (up b o hb hw e), fun s'' hal => ?_⟩)
    exact seg_again rfl (ih (i + 1) s'' s'' _ (by lia) hlt ((W₀ A hh).frame _ _ _ hst₂ fun b hb o e => hal b (List.mem_cons_of_mem _ hb) o (hk₄ b o e))
      ((hn₂.keeps hk₄).at' fun o e => hal _ (List.mem_cons_self ..) o e) (GenSince.refl _ _ _))
theorem startT {elt iter : Expr} {x : Str} {px : Pos} {scope : Scope} {pos : Pos} {I a : Addr} {g : Nat} {fp wr : List Addr} {n : Nat} {P : Nat → Value → Prop} {St₀ : Nat → Heap → Prop} {cenv : Env}
    (hh : A.handled = none) (W₀ : ∀ A' : Around, A'.handled = none → Walks prog w A' I fp wr n P St₀) (F : Nat → Value → Prop)
    (hx : cenv.kindOf x = some .local) (hp : (cenv.scope.kind == .class || (cenv.scope.kind == .module && cenv.locals != cenv.globals)) = false)
    (hco : cenv.scope.isCoroutine = false) (hCf : cenv.locals ∉ fp) {s : Shared} {m : Str → Option Value} (hq : EltT prog w cenv x elt P F)
    (hg : s.heap.IsGen a g) (hgs : s.gens[g]? = some (.fresh (.compStart (.GeneratorExp elt [⟨.Name x px, iter, [], 0⟩] scope pos) 0 (.ref I) .none cenv)))
    (hst : St₀ 0 s.heap) (hn : s.heap.Ns cenv.locals m) (hl : s.heap.NoLimit) : GenAt prog w A a g cenv.locals fp wr (fun _ => true) n F 0 s := by
  refine ⟨hg, hl, _, hgs, fun s'' hal => ⟨rfl, ?_⟩⟩
  have hst' := (W₀ A hh).frame _ _ _ hst fun b hb o e => hal b (List.mem_cons_of_mem _ hb) o e
  have loop := loopT (A := A.in1) (iter := iter) (px := px) (scope := scope) (pos := pos) hh W₀ F hx hp hco hCf hq n 0 s'' s'' m (by lia) (Nat.zero_le _) hst' (hn.at' fun o e => hal _ (List.mem_cons_self ..) o e) (GenSince.refl _ _ _)
  have hh' : (A.in1.over (.compStart (.GeneratorExp elt [⟨.Name x px, iter, [], 0⟩] scope pos) 0 (.ref I) .none cenv) []).handled = none := hh
  show Seg _ A.in1 _ _ _ s'' _ ((compStart (.GeneratorExp elt [⟨.Name x px, iter, [], 0⟩] scope pos) 0 (.ref I) .none cenv).onRaise (leaving cenv)) [] s''
  unfold compStart
  rw [Sem.onRaise_eq_wrap]
  show Seg _ A.in1 _ _ _ s'' _ ((ask >>= _).wrap _ _ _ _) [] s''
  refine seg_bind_wrap (wpAny_askSetting ?_)
  split
  · exact seg_again rfl loop
  · exact seg_bind_wrap (wpAny_rule (seg_bind_wrap (wpAny_standAt (seg_bind_wrap ((W₀ _ hh').self 0 s'' _ _ hst' (seg_again rfl loop))))))
end
section
variable {prog : Program} {w : World} {A : Around} {E : Value → Shared → Prop} {s : Shared} {h₀ : Heap} {L c P : Addr} {m mg mb : Str → Option Value} {news : List (Addr × Obj)} {g : Obj → List (Addr × Obj)}
  {p : Program} {loose : List Str} {mean : ExcName → Option Value} {ps : Array Value}
theorem gen_KT {env : Env} {elt iter : Expr} {x : Str} {px : Pos} {scope : Scope} {pos : Pos} {Q : Value → Shared → Prop} {D : Addr} {vs : List Value} {xs : List Str} {f : Str → Str}
    (F : Fr h₀ L s.heap m) (N : News h₀ L s.heap news) (T : Top p loose mean mg mb h₀) (C : CodeHd h₀ c P) (hcode : env.code = .ref c) (hge : env.globals = mainGlobals) (U : UpdF P (tabObj ps) news g) (ht : TriplesOk ps.toList)
    (hh : A.handled = none) (hco : scope.isCoroutine = false) (hclos : closureFor scope env = pure []) (hcell : ∀ y ∈ scope.names, y.2 ≠ .cell) (h0 : scope.names.lookup (".0" : Str) = some NameKind.local)
    (hx : scope.names.lookup x = some .local) (hkind : scope.kind = .function) (hroom : A.depth < recursionLimit) (hs : ∀ x, genFold iter env x = pure x)
    (hi : ∀ Q' : Value → Shared → Prop, Q' (.ref D) s → wpAny (model prog w) A (eval iter env) Q' E s)
    (hl : s.heap.IsList D vs.toArray) (hS : StrsAre vs xs)
    (helt : ∀ (C : Addr) (code : Value) (A' : Around) E' (y : Str) (t : Tok) (s₂ : Shared) m₂, A'.handled = none → y ∈ xs → 0 < s₂.toks → s₂.heap.Ns (genEnv scope [] C code builtinsNs env).locals m₂ → m₂ x = some (.str y t) →
          wpAny (model prog w) A' (eval elt (genEnv scope [] C code builtinsNs env)) (fun v s₃ => (∃ u, v = .str (f y) u) ∧ Keeps s₂ s₃) E' s₂)
    (h : ∀ (a : Addr) (s' : Shared) (ps' : Array Value), (ps' = ps ∨ ∃ c', codeAmong pos ps.toList = none ∧ ps' = ps ++ #[rawInt pos.line, rawInt pos.col, .ref c']) → TriplesOk ps'.toList → (∀ o, Bare o s → Bare o s') → Fr h₀ L s'.heap m → News h₀ L s'.heap (g (tabObj ps')) →
      GenX prog w A L a xs f (g (tabObj ps')) s' → Q (.ref a) s') :
    wpAny (model prog w) A (eval (.GeneratorExp elt [⟨.Name x px, iter, [], 0⟩] scope pos) env) Q E s := by
  refine Classical.byContradiction fun hng9 => ?_
  obtain ⟨own, rest, rfl, hgr, h1, h2⟩ := U.split
  refine hng9 ?_
  clear hng9
  have hm := N (P, tabObj ps) (List.mem_append_right _ (.head _))
  have hgs := T.g.keeps F.keep
  refine Classical.byContradiction fun hng9 => ?_
  obtain ⟨bm, ob, b1, b2, b3, b4, b5, b6⟩ := T.bmain
  refine hng9 ?_
  clear hng9
  have hlt : D < s.heap.objs.size := by obtain ⟨_, e, _⟩ := hl; exact Heap.lt_size e
  have hPlt : P < s.heap.objs.size := Heap.lt_size hm.1
  have hlP : D ≠ P := fun e => by
    refine Classical.byContradiction fun hng9 => ?_
    obtain ⟨o, ho, hc, _⟩ := hl
    refine hng9 ?_
    clear hng9
    rw [e, hm.1] at ho; cases ho; cases hc
  have hlim := T.nolimit.keeps F.keep
  have hLs : L < s.heap.objs.size := F.ns.lt
  refine wpAny_GeneratorExp_make hco hclos hcell h0 hkind hroom (hi _ ?_) hs
  refine wpAny_pyIter_list hl ⟨hlim.push _, ?_⟩
  have hk₂ : ∀ b o, s.heap.get? b = some o → (s.heap.push { cls := .type "list_iterator", data := .fields #[.ref D, .int 0 0] }).get? b = some o := fun b o e => Heap.get?_push_of_some _ e
  have hI : (s.heap.push { cls := .type "list_iterator", data := .fields #[.ref D, .int 0 0] }).get? s.heap.objs.size = some { cls := .type "list_iterator", data := .fields #[.ref D, .int 0 0] } := Heap.get?_push_size _ rfl
  have hs₂ : (s.heap.push { cls := .type "list_iterator", data := .fields #[.ref D, .int 0 0] }).objs.size = s.heap.objs.size + 1 := Heap.size_push ..
  generalize s.heap.push { cls := .type "list_iterator", data := .fields #[.ref D, .int 0 0] } = H₂ at hk₂ hI hs₂ ⊢
  have hcode' : wpAny (model prog w) A (genexprCode env pos (env.qual ++ "<genexpr>") scope) (fun code s₃ => ∃ h₃ tk ps', s₃ = { s with heap := h₃, toks := tk } ∧ Heap.ExtBut P H₂ h₃ ∧ H₂.objs.size ≤ h₃.objs.size ∧ h₃.get? P = some (tabObj ps') ∧ TriplesOk ps'.toList ∧
      (ps' = ps ∨ ∃ c', codeAmong pos ps.toList = none ∧ ps' = ps ++ #[rawInt pos.line, rawInt pos.col, .ref c'])) E { s with heap := H₂ } := by
    cases hf : codeAmong pos ps.toList with
    | some c' => exact wpAny_genexprCode_hit hcode ((C.keeps fun b o e => hk₂ b o (F.keep b o e)).code (hk₂ _ _ hm.1) ht) hf ⟨H₂, s.toks, ps, rfl, fun b o _ e => e, Nat.le_refl _, hk₂ _ _ hm.1, ht, .inl rfl⟩
    | none =>
      refine wpAny_genexprCodeX hcode ((C.keeps fun b o e => hk₂ b o (F.keep b o e)).code (hk₂ _ _ hm.1) ht) ((C.keeps fun b o e => hk₂ b o (F.keep b o e)).tab (hk₂ _ _ hm.1)) hf fun c' h₃ tk₃ hx₃ hg3 hlt₃ hcode₃ _ htab₃ _ => ?_
      refine ⟨h₃, tk₃, _, rfl, hx₃, Nat.le_trans hg3 (Nat.le_of_lt hlt₃), htab₃.2, ?_, .inr ⟨c', rfl, rfl⟩⟩
      have e2 : (ps ++ #[rawInt pos.line, rawInt pos.col, Value.ref c']).toList = ps.toList ++ [rawInt pos.line, rawInt pos.col, .ref c'] := by simp
      rw [e2]; exact TriplesOk_snoc _ _ _ _ ht
  refine wpAny_mono hcode' (fun code s₃ h₃' => ?_) fun _ _ e => e
  refine Classical.byContradiction fun hng9 => ?_
  obtain ⟨h₃, tk₃, ps', rfl, hx₃, hsz₃, hP₃, ht', hps⟩ := h₃'
  refine hng9 ?_
  clear hng9
  have old : ∀ b o, h₀.get? b = some o → h₃.get? b = some o := fun b o e => hx₃ b o (fun q => by rw [q, hm.2.2] at e; cases e) (hk₂ b o (F.keep b o e))
  rw [hge]
  refine wpAny_builtinsFor (T.g.keeps old) b1 b2 (old _ _ b3) b4 b5 b6 fun h₄ hn₄ hs₄ => ?_
  have lt₃ : s.heap.objs.size < h₃.objs.size := by lia
  have hl₃ : h₃.IsList D vs.toArray := by
    refine Classical.byContradiction fun hng9 => ?_
    obtain ⟨o, e, r⟩ := hl
    refine hng9 ?_
    clear hng9
    exact ⟨o, hx₃ _ _ hlP (hk₂ _ _ e), r⟩
  have hne : D ≠ s.heap.objs.size := Nat.ne_of_lt hlt
  have hIP : s.heap.objs.size ≠ P := Ne.symm (Nat.ne_of_lt hPlt)
  have hcs : cStatics < s.heap.objs.size := let ⟨_, hns, _⟩ := hlim; hns.lt
  have hsz₄ : h₄.objs.size = h₃.objs.size + 1 := by rw [hs₄.1, Heap.size_push]
  have keep₄ : ∀ b o, h₃.get? b = some o → h₄.get? b = some o := fun b o e => hs₄.extBut b o (Nat.ne_of_lt (Heap.lt_size e)) (Heap.get?_push_of_some _ e)
  have W₀ : ∀ A' : Around, A'.handled = none → Walks prog w A' s.heap.objs.size [s.heap.objs.size, D] [s.heap.objs.size] vs.toArray.size (fun i v => vs.toArray[i]? = some v) _ := fun A' hA => Walks.list hA _ _ hne vs.toArray
  have hlen : vs.toArray.size = xs.length := by rw [List.size_toArray]; exact hS.len_eq
  have hsub : ∀ b ∈ [s.heap.objs.size], b ∈ List.range h₃.objs.size := fun b hb => by rw [List.mem_singleton.mp hb]; exact List.mem_range.mpr lt₃
  have haf : h₄.objs.size ∉ List.range h₃.objs.size := fun hm => by have := List.mem_range.mp hm; lia
  have hCf : h₃.objs.size ∉ List.range h₃.objs.size := fun hm => Nat.lt_irrefl _ (List.mem_range.mp hm)
  have hcw : cStatics ∉ [s.heap.objs.size] := fun e => absurd hcs (by rw [List.mem_singleton.mp e]; exact Nat.lt_irrefl _)
  let gv : Obj := { cls := .type "generator", data := .fields #[.int s.gens.size 0, .str "<genexpr>" (tk₃ + 1), .str (env.qual ++ "<genexpr>") (tk₃ + 1 + 1)] }
  have hk₅ : ∀ b o, h₃.get? b = some o → (h₄.push gv).get? b = some o := fun b o e => Heap.get?_push_of_some _ (keep₄ b o e)
  have hlim₅ : (h₄.push gv).NoLimit := T.nolimit.keeps fun b o e => hk₅ b o (old b o e)
  have W := WalksS.genexpQ (prog := prog) (w := w) (A := A.in4) hh h₄.objs.size s.gens.size h₃.objs.size (List.range h₃.objs.size) [s.heap.objs.size] (fun _ => true) vs.toArray.size (fun i v => ∃ u, v = .str (f (xs.getD i "")) u)
    (by rw [hsz₄]; exact Nat.succ_ne_self _) haf hsub hroom (List.mem_range.mpr (Nat.lt_trans hcs lt₃)) (Nat.ne_of_lt (Nat.lt_trans hcs lt₃)) hcw
  have hat : ∀ (i : Nat) (v : Value), vs.toArray[i]? = some v → ∃ t, v = Value.str (xs.getD i "") t ∧ xs.getD i "" ∈ xs := fun i v hv => by
    refine Classical.byContradiction fun hng9 => ?_
    obtain ⟨y, t, e1, e2⟩ := hS.item i v (by simpa using hv)
    refine hng9 ?_
    clear hng9
    refine ⟨t, by rw [e1]; simp [List.getD_eq_getElem?_getD, e2], ?_⟩
    simp only [List.getD_eq_getElem?_getD, e2, Option.getD_some]
    exact List.mem_of_getElem? e2
  have hst := startT (prog := prog) (w := w) (A := A.in4) (elt := elt) (iter := iter) (px := px) (scope := scope) (pos := pos) (a := h₄.objs.size) (g := s.gens.size) (cenv := genEnv scope [] h₃.objs.size code builtinsNs env)
    (s := { s with gens := s.gens.push (.fresh (.compStart (.GeneratorExp elt [⟨.Name x px, iter, [], 0⟩] scope pos) 0 (.ref s.heap.objs.size) .none (genEnv scope [] h₃.objs.size code builtinsNs env))), toks := tk₃ + 1 + 1 + 1, heap := h₄.push gv })
    (fp := List.range h₃.objs.size) (m := fun y => if y = ".0" then some (.ref s.heap.objs.size) else none) hh (fun A' hA => (W₀ A' hA).mono_fp fun b hb => by
      rcases List.mem_cons.mp hb with rfl | hb
      · exact List.mem_range.mpr lt₃
      · rw [List.mem_singleton.mp hb]; exact List.mem_range.mpr (Nat.lt_trans hlt lt₃)) (fun i v => ∃ u, v = .str (f (xs.getD i "")) u) hx (by simp [genEnv, hkind]) hco hCf
    (fun A' E' i v s₂ m₂ hA hP h02 hn hmx => by
      refine Classical.byContradiction fun hng9 => ?_
      obtain ⟨t, rfl, hmem⟩ := hat i v hP
      refine hng9 ?_
      clear hng9
      exact helt _ code A' E' _ t s₂ m₂ hA hmem h02 hn hmx) ⟨_, _, _, Heap.get?_push_size _ rfl, rfl, rfl, rfl⟩ (Array.getElem?_push_size ..)
    ((W₀ A hh).frame 0 h₃ _ ⟨⟨_, hx₃ _ _ hIP hI, rfl, rfl⟩, hl₃⟩ fun b _ o e => hk₅ b o e) (hn₄.push _) hlim₅
  rw [pass_all, List.length_range] at W
  have N₅ : News h₀ L (h₄.push gv) (own ++ (P, tabObj ps') :: rest) := fun q hq => by
    rcases List.mem_append.mp hq with hq | hq
    · have n := N q (List.mem_append_left _ hq)
      exact ⟨hk₅ _ _ (hx₃ _ _ (h1 q hq) (hk₂ _ _ n.1)), n.2⟩
    · rcases List.mem_cons.mp hq with rfl | hq
      · exact ⟨hk₅ _ _ hP₃, hm.2⟩
      · have n := N q (List.mem_append_right _ (.tail _ hq))
        exact ⟨hk₅ _ _ (hx₃ _ _ (h2 q hq) (hk₂ _ _ n.1)), n.2⟩
  have hltN : ∀ q ∈ own ++ (P, tabObj ps') :: rest, q.1 < s.heap.objs.size := fun q hq => by
    rcases List.mem_append.mp hq with hq | hq
    · exact Heap.lt_size (N q (List.mem_append_left _ hq)).1
    · rcases List.mem_cons.mp hq with rfl | hq
      · exact hPlt
      · exact Heap.lt_size (N q (List.mem_append_right _ (.tail _ hq))).1
  have hwr : ∀ b ∈ h₃.objs.size :: [s.heap.objs.size], s.heap.objs.size ≤ b := fun b hb => by
    rcases List.mem_cons.mp hb with rfl | hb
    · exact Nat.le_of_lt lt₃
    · rw [List.mem_singleton.mp hb]; exact Nat.le_refl _
  have hPL : P ≠ L := hm.2.1
  rw [hlen] at W hst
  refine h h₄.objs.size _ ps' hps ht' (fun o hB => ⟨AllBare.push hB.1 rfl, hB.2⟩) ⟨((F.ns.keeps hk₂).extBut hx₃ (Ne.symm hPL)).keeps hk₅, fun b o e => hk₅ b o (old b o e), F.above⟩ (by rw [hgr]; exact N₅) ⟨_, _, _, _, W, hst, fun i s' st => st.1.typeIs, List.mem_cons_self, ?_, ?_, ?_⟩
  · intro b hb
    show b < (h₄.push gv).objs.size
    rw [Heap.size_push]
    rcases List.mem_cons.mp hb with rfl | hb
    · exact Nat.lt_succ_self _
    · rcases List.mem_cons.mp hb with rfl | hb
      · rw [hsz₄]; exact Nat.lt_succ_of_lt (Nat.lt_succ_self _)
      · rw [hsz₄]; exact Nat.lt_succ_of_lt (Nat.lt_succ_of_lt (List.mem_range.mp hb))
  · intro b hb
    exact Nat.lt_of_lt_of_le hLs (hwr b hb)
  · intro b hb q hq
    rw [hgr] at hq
    exact Nat.ne_of_lt (Nat.lt_of_lt_of_le (hltN q hq) (hwr b hb))
end
end

section
open PySem PySem.W PyProof.Rows PySem.Calls PySem.Builtin PySem.Builtin.Str
section
variable {prog : Program} {w : World} {A : Around} {E : Value → Shared → Prop} {s : Shared} {x y : Str} {t u v1 v2 : Tok} {i j : Nat} {Q : Value → Shared → Prop}
theorem find4_some {k : Nat} {r : List Nat} {iv jv : Int} (hi : iv = (i : Int)) (hjv : jv = (j : Int)) (ho : occurrences x y i j 1 = k :: r) (hj : j ≤ x.length) (hq : Q (.int (k : Int) s.toks) { s with toks := s.toks + 1 }) : wpAny (model prog w) A (call (.builtin "str.find") [.str x t, .str y u, .int iv v1, .int jv v2]) Q E s := by
  subst hi hjv
  refine find4 hj ?_
  rw [ho]; exact hq
theorem find4_none {iv jv : Int} (hi : iv = (i : Int)) (hjv : jv = (j : Int)) (ho : occurrences x y i j 1 = []) (hj : j ≤ x.length) (hq : Q (.int (-1) s.toks) { s with toks := s.toks + 1 }) : wpAny (model prog w) A (call (.builtin "str.find") [.str x t, .str y u, .int iv v1, .int jv v2]) Q E s := by
  subst hi hjv
  refine find4 hj ?_
  rw [ho]; exact hq
end
theorem chunk_end {x : Str} {j f i k : Nat} {cs : List Str} {r : Nat × List Str} (h : chunkF x j (f + 1) i k cs = some r) (ho : occurrences x (Str.ofString "-") k j 1 = []) : r = (i, cs) := by
  unfold chunkF at h
  rw [ho] at h
  exact (Option.some.inj h).symm
theorem chunk_step {x : Str} {j f i k k' : Nat} {l : List Nat} {cs : List Str} {r : Nat × List Str} (h : chunkF x j (f + 1) i k cs = some r) (ho : occurrences x (Str.ofString "-") k j 1 = k' :: l) :
    i ≤ k' ∧ k' < j ∧ chunkF x j f (k' + 1) (k' + 3) (cs ++ [Txt.slice x (some (i : Int)) (some (k' : Int))]) = some r := by
  unfold chunkF at h
  rw [ho] at h
  dsimp only at h
  split at h
  · rename_i q; exact ⟨q.1, q.2, h⟩
  · cases h
theorem dash_of {x y : Str} {i j : Nat} (h : dashF x i j = some y) : ∃ iF csF cs2 cs3, chunkF x j x.length i (if isAt x i "!" then i + 2 else i + 1) [] = some (iF, csF) ∧
    ((Txt.slice x (some (iF : Int)) (some (j : Int))).length ≠ 0 → cs2 = csF ++ [Txt.slice x (some (iF : Int)) (some (j : Int))]) ∧
    ((Txt.slice x (some (iF : Int)) (some (j : Int))).length = 0 → ∃ l, csF = [l] ∧ cs2 = [l ++ Str.ofString "-"]) ∧
    mergeF cs2 = some cs3 ∧ y = Txt.join (Str.ofString "-") (cs3.map rep2) := by
  unfold dashF at h
  cases hc : chunkF x j x.length i (if isAt x i "!" then i + 2 else i + 1) [] with
  | none => rw [hc] at h; cases h
  | some p =>
    obtain ⟨iF, csF⟩ := p
    rw [hc] at h
    dsimp only at h
    by_cases hl : (Txt.slice x (some (iF : Int)) (some (j : Int))).length = 0
    · rw [if_pos hl] at h
      rcases csF with _ | ⟨l, _ | ⟨l2, r⟩⟩
      · cases h
      · dsimp only at h
        cases hm : mergeF [l ++ Str.ofString "-"] with
        | none => rw [hm] at h; cases h
        | some cs3 => rw [hm] at h; exact ⟨iF, _, _, cs3, rfl, fun q => absurd hl q, fun _ => ⟨l, rfl, rfl⟩, hm, (Option.some.inj h).symm⟩
      · cases h
    · rw [if_neg hl] at h
      dsimp only at h
      cases hm : mergeF (csF ++ [Txt.slice x (some (iF : Int)) (some (j : Int))]) with
      | none => rw [hm] at h; cases h
      | some cs3 => rw [hm] at h; exact ⟨iF, csF, _, cs3, rfl, fun _ => rfl, fun q => absurd q hl, hm, (Option.some.inj h).symm⟩
theorem kF_yes {x : Str} {i : Nat} (h : (Txt.item x ((i : Int) + 1) == Str.ofString "!") = true) : i + 1 + 2 = if isAt x (i + 1) "!" then i + 1 + 2 else i + 1 + 1 := by
  have e : isAt x (i + 1) "!" = true := h
  rw [e, if_pos rfl]
theorem kF_no {x : Str} {i : Nat} (h : (Txt.item x ((i : Int) + 1) == Str.ofString "!") = false) : i + 1 + 1 = if isAt x (i + 1) "!" then i + 1 + 2 else i + 1 + 1 := by
  have e : isAt x (i + 1) "!" = false := h
  rw [e, if_neg Bool.false_ne_true]
theorem merge_of {cs cs3 : List Str} (h : mergeF cs = some cs3) : (∃ a, cs = [a] ∧ cs3 = [a]) ∨
    (∃ a b, cs = [a, b] ∧ a.length ≠ 0 ∧ b.length ≠ 0 ∧ cs3 = if fallS a b then [Txt.slice a none (some (-1)) ++ Txt.slice b (some 1) none] else [a, b]) ∨
    (∃ a b c, cs = [a, b, c] ∧ a.length ≠ 0 ∧ b.length ≠ 0 ∧ c.length ≠ 0 ∧ fallS b c = true ∧ (Txt.slice b none (some (-1)) ++ Txt.slice c (some 1) none).length ≠ 0 ∧ fallS a (Txt.slice b none (some (-1)) ++ Txt.slice c (some 1) none) = false ∧ cs3 = [a, Txt.slice b none (some (-1)) ++ Txt.slice c (some 1) none]) := by
  rcases cs with _ | ⟨a, _ | ⟨b, _ | ⟨c, _ | ⟨d, r⟩⟩⟩⟩
  · cases h
  · exact .inl ⟨a, rfl, (Option.some.inj h).symm⟩
  · simp only [mergeF] at h
    split at h
    · cases h
    · rename_i q
      exact .inr (.inl ⟨a, b, rfl, fun e => q (.inl e), fun e => q (.inr e), (Option.some.inj h).symm⟩)
  · simp only [mergeF] at h
    split at h
    · cases h
    · rename_i q
      exact .inr (.inr ⟨a, b, c, rfl, fun e => q (.inl e), fun e => q (.inr (.inl e)), fun e => q (.inr (.inr (.inl e))), by simpa using fun e => q (.inr (.inr (.inr (.inl e)))), fun e => q (.inr (.inr (.inr (.inr (.inl e))))), by simpa using fun e => q (.inr (.inr (.inr (.inr (.inr e))))), (Option.some.inj h).symm⟩)
  · cases h
theorem fall_y {a b : Str} (h : fallS a b = true) : (Txt.item b 0).cps.toList < (Txt.item a (-1)).cps.toList := of_decide_eq_true h
theorem fall_n {a b : Str} (h : fallS a b = false) : ¬ (Txt.item b 0).cps.toList < (Txt.item a (-1)).cps.toList := of_decide_eq_false h
theorem y_fall {a b : Str} (h : (Txt.item b 0).cps.toList < (Txt.item a (-1)).cps.toList) : fallS a b = true := decide_eq_true h
theorem n_fall {a b : Str} (h : ¬ (Txt.item b 0).cps.toList < (Txt.item a (-1)).cps.toList) : fallS a b = false := decide_eq_false h
theorem unr_end {h₀ : Heap} {L I : Addr} {it : Obj} {rest : (Str → Option Value) → List (Addr × Obj) → Prop} {s₁ : Shared} {h' : Heap} {tk : Nat} {m' : Str → Option Value} {news' : List (Addr × Obj)} (F : Fr h₀ L h' m') (N : News h₀ L h' ((I, it) :: news'))
    (off : ∀ p ∈ news', p.1 ≠ I) (r : rest m' news') : UnrEnd h₀ L s₁ I it rest { s₁ with heap := h', toks := tk } := ⟨h', tk, m', news', rfl, F, N, off, r⟩
theorem unr_off {C a D B I : Addr} {o1 o2 o3 o4 : Obj} {l : List (Addr × Obj)} (h : C < I ∧ a < I ∧ D < I ∧ B < I ∧ AllLt I l) : ∀ p ∈ (C, o1) :: (a, o2) :: (D, o3) :: (B, o4) :: l, p.1 ≠ I := by
  intro p hp
  simp only [List.mem_cons] at hp
  rcases hp with rfl | rfl | rfl | rfl | hp
  · exact Nat.ne_of_lt h.1
  · exact Nat.ne_of_lt h.2.1
  · exact Nat.ne_of_lt h.2.2.1
  · exact Nat.ne_of_lt h.2.2.2.1
  · exact allLt_ne h.2.2.2.2 p hp
theorem meetN {o : OsState} {nm : Str} {h₀ : Heap} {L : Addr} {Led : Nat × Tok → List (Addr × Obj)} {stored : List Str} {m₀ m' : Str → Option Value} {P : Nat × Tok → Prop} {s₂ : Shared} {nw : List (Addr × Obj)} {jv : Int} {t : Tok} (j : Nat) (F : Fr h₀ L s₂.heap m') (N : News h₀ L s₂.heap nw)
    (hn : ∀ p ∈ Led (j, t), p ∈ nw) (hk : m' nm = some (.int jv t)) (hv : jv = (j : Int)) (hr : ∀ z, z ≠ nm → m' z = m₀ z) (hp : P (j, t))
    (hB : Bare o s₂ := by first | assumption | exact And.right (by assumption)) :
    MeetAt o h₀ L Led (fun c => [(nm, .int (c.1 : Int) c.2)]) stored m₀ P s₂ := by
  subst hv
  exact meet (j, t) F N hn (List.forall_mem_cons.mpr ⟨hk, fun _ h => nomatch h⟩) (fun z hz _ => hr z (hz _ (.head _))) hp
structure ChS where
  i : Nat
  ti : Tok
  k : Nat
  tk : Tok
  vs : List Value
  cs : List Str
  n : Nat
  fuel : Nat
theorem meetC {o : OsState} {h₀ : Heap} {L : Addr} {Led : ChS → List (Addr × Obj)} {stored : List Str} {m₀ m' : Str → Option Value} {P : ChS → Prop} {s₂ : Shared} {nw : List (Addr × Obj)} {iv kv : Int} {ti tk : Tok} (i k : Nat) (vs : List Value) (cs : List Str) (n fuel : Nat) (F : Fr h₀ L s₂.heap m') (N : News h₀ L s₂.heap nw)
    (hn : ∀ p ∈ Led ⟨i, ti, k, tk, vs, cs, n, fuel⟩, p ∈ nw) (hi : m' (Str.ofString "i") = some (.int iv ti)) (hiv : iv = (i : Int)) (hk : m' (Str.ofString "k") = some (.int kv tk)) (hkv : kv = (k : Int))
    (hr : ∀ z, z ≠ Str.ofString "i" → z ≠ Str.ofString "k" → m' z = m₀ z) (hp : P ⟨i, ti, k, tk, vs, cs, n, fuel⟩)
    (hB : Bare o s₂ := by first | assumption | exact And.right (by assumption)) :
    MeetAt o h₀ L Led (fun c => [(Str.ofString "i", .int (c.i : Int) c.ti), (Str.ofString "k", .int (c.k : Int) c.tk)]) stored m₀ P s₂ := by
  subst hiv hkv
  exact meet (⟨i, ti, k, tk, vs, cs, n, fuel⟩ : ChS) F N hn (List.forall_mem_cons.mpr ⟨hi, List.forall_mem_cons.mpr ⟨hk, fun _ h => nomatch h⟩⟩) (fun z hz _ => hr z (hz _ (.head _)) (hz _ (.tail _ (.head _)))) hp
/-- the loop's end: k is whatever it is -/
theorem meetC2 {o : OsState} {h₀ : Heap} {L : Addr} {Led : ChS → List (Addr × Obj)} {m₀ m' : Str → Option Value} {P : ChS → Prop} {s₂ : Shared} {nw : List (Addr × Obj)} {iv : Int} {ti : Tok} (i : Nat) (vs : List Value) (cs : List Str) (n : Nat) (F : Fr h₀ L s₂.heap m') (N : News h₀ L s₂.heap nw)
    (hn : ∀ p ∈ Led ⟨i, ti, 0, 0, vs, cs, n, 0⟩, p ∈ nw) (hi : m' (Str.ofString "i") = some (.int iv ti)) (hiv : iv = (i : Int))
    (hr : ∀ z, z ≠ Str.ofString "i" → z ≠ Str.ofString "k" → m' z = m₀ z) (hp : P ⟨i, ti, 0, 0, vs, cs, n, 0⟩)
    (hB : Bare o s₂ := by first | assumption | exact And.right (by assumption)) :
    MeetAt o h₀ L Led (fun c => [(Str.ofString "i", .int (c.i : Int) c.ti)]) [Str.ofString "k"] m₀ P s₂ := by
  subst hiv
  refine meet (⟨i, ti, 0, 0, vs, cs, n, 0⟩ : ChS) F N hn (List.forall_mem_cons.mpr ⟨hi, fun _ h => nomatch h⟩) (fun z hz hc => hr z (hz _ (.head _)) ?_) hp
  intro e; subst e; simp at hc
structure CkS where
  vs : List Value
  n : Nat
/-- the chunks as they are when the last is booked -/
theorem meetK2 {o : OsState} {h₀ : Heap} {L : Addr} {Led : CkS → List (Addr × Obj)} {stored : List Str} {m₀ m' : Str → Option Value} {P : CkS → Prop} {s₂ : Shared} {nw : List (Addr × Obj)} (vs : List Value) (n : Nat) (F : Fr h₀ L s₂.heap m') (N : News h₀ L s₂.heap nw)
    (hn : ∀ p ∈ Led ⟨vs, n⟩, p ∈ nw) (hr : ∀ z, stored.contains z = false → m' z = m₀ z) (hp : P ⟨vs, n⟩)
    (hB : Bare o s₂ := by first | assumption | exact And.right (by assumption)) :
    MeetAt o h₀ L Led (fun _ => []) stored m₀ P s₂ :=
  meet (⟨vs, n⟩ : CkS) F N hn (fun _ h => nomatch h) (fun z _ h => hr z h) hp

theorem strs_1 {vs : List Value} {a : Str} (h : StrsAre vs [a]) : ∃ t, vs = [.str a t] := by
  cases h with | cons y t h => cases h; exact ⟨t, rfl⟩
theorem strs_2 {vs : List Value} {a b : Str} (h : StrsAre vs [a, b]) : ∃ t u, vs = [.str a t, .str b u] := by
  cases h with | cons y t h => obtain ⟨u, rfl⟩ := strs_1 h; exact ⟨t, u, rfl⟩
theorem strs_3 {vs : List Value} {a b c : Str} (h : StrsAre vs [a, b, c]) : ∃ t u v, vs = [.str a t, .str b u, .str c v] := by
  cases h with | cons y t h => obtain ⟨u, v, rfl⟩ := strs_2 h; exact ⟨t, u, v, rfl⟩

theorem ine_f {x y : Int} {P Q : Prop} (h : x = y) (hq : Q) : if (x != y) = true then P else Q := by subst h; simpa using hq
theorem ine_t {x y : Int} {P Q : Prop} (h : x ≠ y) (hp : P) : if (x != y) = true then P else Q := by simp [h, hp]

theorem whl_next {σ : Type} {o : OsState} {h₀ : Heap} {L : Addr} {Led : σ → List (Addr × Obj)} {ps : σ → List (Str × Value)} {stored : List Str} {m₀ : Str → Option Value} {P : σ → Prop} {μ : σ → Nat} {Q : Flow → Shared → Prop} {k : Nat} {s₂ : Shared}
    (h : MeetAt o h₀ L Led ps stored m₀ (fun c => P c ∧ μ c < k) s₂) : WhlG o h₀ L Led ps stored m₀ P μ Q k .next s₂ := h

/-- stands in the context where a stop is to be passed by -/
noncomputable def GoOn : Prop := True
theorem goOn : GoOn := trivial
end

section
open PySem PySem.W PyProof.Rows PySem.Calls PySem.Builtin PySem.Builtin.Str
theorem len_replace (x y z : Str) : (Txt.replace x y z).length ≤ x.length + (x.length + 1) * z.length := by
  unfold Txt.replace
  split
  · exact Nat.le_add_right _ _
  · have h1 := StrLaws.occ_length_le x y 0 x.length (x.length + 1)
    have hy : (glued y (partsBetween x (occurrences x y 0 x.length (x.length + 1)) y.length)).length = x.length := by rw [StrLaws.glued_between_self]
    rw [size_glued, length_partsBetween, Nat.add_sub_cancel] at hy
    rw [size_glued, length_partsBetween, Nat.add_sub_cancel]
    have h2 : (occurrences x y 0 x.length (x.length + 1)).length * z.length ≤ (x.length + 1) * z.length := Nat.mul_le_mul_right _ h1
    lia
theorem len_repB (x : Str) : (repB x).length ≤ 3 * x.length + 2 := by
  have h := len_replace x (Str.ofString "\\") (Str.ofString "\\\\")
  have e : (Str.ofString "\\\\").length = 2 := rfl
  rw [e] at h
  unfold repB
  lia
theorem len_rep2 (x : Str) : (rep2 x).length ≤ 3 * (3 * x.length + 2) + 2 := by
  have h := len_replace (repB x) (Str.ofString "-") (Str.ofString "\\-")
  have e : (Str.ofString "\\-").length = 2 := rfl
  have h2 := len_repB x
  rw [e] at h
  unfold rep2
  lia
section
variable {prog : Program} {w : World} {A : Around} {E : Value → Shared → Prop} {s : Shared} {x y z : Str} {t u v : Tok} {Q : Value → Shared → Prop}
theorem replP (h0 : 0 < u) (huv : u < v) (hs : v < s.toks) (hyz : (y == z) = false) (hx : x.length ≤ 1048576) (hz : z.length ≤ 14) (hq : ∀ t' k, 0 < k → Q (.str (Txt.replace x y z) t') { s with toks := k }) :
    wpAny (model prog w) A (call (.builtin "str.replace") [.str x t, .str y u, .str z v]) Q E s := by
  refine wpAny_with_toks (n := 1) (Nat.lt_of_le_of_lt (Nat.zero_le _) hs) (SC.replaceW (Nat.ne_of_gt h0) (Nat.ne_of_gt (Nat.lt_trans h0 huv)) (Nat.ne_of_lt huv) hyz hx hz fun t' k hk => hq t' k hk)
end
theorem updF_2 {d C : Addr} {o oC : Obj} {l : List (Addr × Obj)} (h1 : C ≠ d) (h : ∀ q ∈ l, q.1 ≠ d) : UpdF d o ((C, oC) :: (d, o) :: l) (fun o' => (C, oC) :: (d, o') :: l) := .tail h1 (.head h)
theorem merge_len {cs cs3 : List Str} (h : mergeF cs = some cs3) (hb : ∀ y ∈ cs, y.length ≤ 100001) : cs3.length ≤ 3 ∧ ∀ y ∈ cs3, y.length ≤ 300010 := by
  have sl : ∀ (a b : Str), (Txt.slice a none (some (-1)) ++ Txt.slice b (some 1) none).length ≤ a.length + b.length := fun a b => by
    rw [strLen_append]
    have := Txt.slice_le a none (some (-1))
    have := Txt.slice_le b (some 1) none
    lia
  rcases merge_of h with ⟨a, rfl, rfl⟩ | ⟨a, b, rfl, _, _, rfl⟩ | ⟨a, b, c, rfl, _, _, _, _, _, _, rfl⟩
  · have := hb a (.head _)
    simp; lia
  · have := hb a (.head _)
    have := hb b (.tail _ (.head _))
    have := sl a b
    split <;> simp <;> lia
  · have := hb a (.head _)
    have := hb b (.tail _ (.head _))
    have := hb c (.tail _ (.tail _ (.head _)))
    have := sl b c
    simp; lia
theorem join_ok {cs3 : List Str} (h : cs3.length ≤ 3 ∧ ∀ y ∈ cs3, y.length ≤ 300010) : JoinOk (Str.ofString "-") (cs3.map rep2) = true := by
  unfold JoinOk
  rw [StrLaws.joinFits (B := 3000000)]
  · rfl
  · intro y hy
    obtain ⟨z, hz, rfl⟩ := List.mem_map.mp hy
    have := len_rep2 z
    have := h.2 z hz
    lia
  · have e : (Str.ofString "-").length = 1 := rfl
    rw [List.length_map, e]
    have := h.1
    lia
end

section
open PySem PySem.W PyProof.Rows PySem.Calls PySem.Builtin PySem.Builtin.Str
noncomputable abbrev eltX : Expr := .Call (.Attribute (.Call (.Attribute (.Name (Str.ofString "s") ⟨189, 38, 189, 39⟩) (Str.ofString "replace") ⟨189, 38, 189, 47⟩) [.Constant (.str (Str.ofString "\\")) 0 ⟨189, 48, 189, 52⟩, .Constant (.str (Str.ofString "\\\\")) 0 ⟨189, 54, 189, 60⟩] [] ⟨189, 38, 189, 61⟩) (Str.ofString "replace") ⟨189, 38, 189, 69⟩)
  [.Constant (.str (Str.ofString "-")) 0 ⟨189, 70, 189, 73⟩, .Constant (.str (Str.ofString "\\-")) 0 ⟨189, 75, 189, 80⟩] [] ⟨189, 38, 189, 81⟩
noncomputable abbrev eltSc : Scope := { kind := .function, names := [(Str.ofString ".0", .local), (Str.ofString "s", .local)], isGenerator := true, isCoroutine := false }
theorem mw_T22_0 : True := by
  k_with_none
  trivial
theorem mw_T22_1 : True := by
  (k_with "call builtin:str.replace" => ((refine' replP ?k1 ?k2 ?k3 ?k4 ?k5 ?k6 ?_; (case k1 => (first | assumption | exact Nat.succ_pos _)); (case k2 => exact Nat.lt_succ_self _); (case k3 => exact Nat.lt_succ_self _); (case k4 => decide +kernel); (case k5 => (first | omega)); (case k6 => decide +kernel); k_whole); intro _ _ _))
  trivial
theorem elt_does {prog : Program} {w : World} {C : Addr} {code : Value} {b : Addr} {env : Env} {A' : Around} {E' : Value → Shared → Prop} {y : Str} {t : Tok} {s₂ : Shared} {m₂ : Str → Option Value} (hlen : y.length ≤ 300010)
    (h0 : 0 < s₂.toks) (hn : s₂.heap.Ns (genEnv eltSc [] C code b env).locals m₂) (hm : m₂ (Str.ofString "s") = some (.str y t)) :
    wpAny (model prog w) A' (eval eltX (genEnv eltSc [] C code b env)) (fun v s₃ => (∃ u, v = .str (rep2 y) u) ∧ Keeps s₂ s₃) E' s₂ := by
  have hl2 := len_repB y
  unfold repB at hl2
  obtain ⟨h, g, d, tk, os⟩ := s₂
  dsimp only at h0 hn
  refine MethodCall_ ?_
  refine MethodCall_ ?_
  refine ldG hn hm ?_ rfl rfl (by decide +kernel)
  repeat walk1
  exact ⟨h, _, rfl, fun _ _ e => e⟩
end

section
open PySem PySem.W PyProof.Rows PySem.Calls PySem.Builtin PySem.Builtin.Str
section
variable {prog : Program} {w : World} {A : Around} {E : Value → Shared → Prop} {s : Shared} {h₀ : Heap} {L D : Addr} {m : Str → Option Value} {nw : List (Addr × Obj)} {vs : List Value} {n : Nat}
theorem item_vals {value slice : Expr} {iv : Int} {u : Tok} {v : Value} {Q : Value → Shared → Prop} (i : Nat) (N : News h₀ L s.heap nw) (hm : (D, listOf vs.toArray n) ∈ nw) (hi : iv = (i : Int)) (hsm : i ≤ 1000000) (hv : vs[i]? = some v)
    (h : Q v s) (hs : subscripted slice false (.ref D) (.int iv u) = operate [.ref D, .int iv u] (getItem (.ref D) (.int iv u)) := by with_unfolding_all rfl) :
    wpAny (model prog w) A (subscriptTail value slice (.ref D) (.int iv u)) Q E s := by
  have hl := lst_at N hm
  refine tail_any hl.typeIs slot_list_getitem.lookup (wpAny_getItem_list hl (by lia) (by lia) ?_ h) hs
  subst hi
  simpa using hv
end
end

section
open PySem PySem.W PyProof.Rows PySem.Calls PySem.Builtin PySem.Builtin.Str
theorem eqGives_none_none : MeetsSeq.EqGives .none .none true := by
  intro prog w A E s Q h
  unfold eqBool
  refine wpAny_holding (wpAny_ite_split (fun _ => wpAny_bind (wpAny_rule (wpAny_pure h))) (fun hab => absurd (show (true : Bool) = true from rfl) hab))
theorem eqGives_str_none (z : Str) (u : Tok) : MeetsSeq.EqGives (.str z u) .none false := by
  intro prog w A E s Q h
  unfold eqBool
  refine wpAny_holding (wpAny_ite_split (fun hab => absurd (show (false : Bool) = true from hab) (by decide)) (fun _ => ?_))
  exact wpAny_bind (PySem.EqNone.eq_str_none (wpAny_truthy_bool h))
section
variable {prog : Program} {w : World} {A : Around} {E : Value → Shared → Prop} {s : Shared} {h₀ : Heap} {L D : Addr} {m : Str → Option Value} {nw : List (Addr × Obj)} {vs : List Value} {ys : List Str} {n : Nat} {x : Str} {t : Tok} {Q : Value → Shared → Prop}
end
/-- the marks of an item -/
noncomputable def marksF (x : Str) : Nat → Nat → List Str → Option (List Str)
  | 0, _, _ => none
  | f + 1, k, acc => if k < x.length then
      if isAt x k "\\" then (if (Txt.slice x (some (k : Int)) (some ((k : Int) + 2))).length = 0 then none else marksF x f (k + (Txt.slice x (some (k : Int)) (some ((k : Int) + 2))).length) (acc ++ [Txt.slice x (some (k : Int)) (some ((k : Int) + 2))]))
      else marksF x f (k + 1) (acc ++ [itm x k])
    else some acc
structure SgS where
  k : Nat
  tk : Tok
  D : Addr
  vs : List Value
  acc : List Str
  n : Nat
  fuel : Nat
end

section
open PySem PySem.W PyProof.Rows PySem.Calls PySem.Builtin PySem.Builtin.Str
/-! dicts whose keys are texts or None -/
section
variable {prog : Program} {w : World} {A : Around} {E : Value → Shared → Prop} {s : Shared}
end
section
variable {prog : Program} {w : World} {A : Around} {E : Value → Shared → Prop} {s : Shared} {h₀ : Heap} {L d : Addr} {nw : List (Addr × Obj)} {o : Obj} {kvs : List (Str × Value)}
end

end

section
open PySem PySem.W PyProof.Rows PySem.Calls PySem.Builtin PySem.Builtin.Str
theorem strs_get {vs : List Value} {ys : List Str} (h : StrsAre vs ys) : ∀ j (h1 : j < vs.length), ∃ t, vs[j] = .str (ys.getD j Str.empty) t := by
  induction h with
  | nil => intro j h1; cases h1
  | cons y t r ih =>
    intro j h1
    cases j with
    | zero => exact ⟨t, rfl⟩
    | succ j => exact ih j (by simpa using h1)
theorem all_eq : ∀ (ys zs : List Str), ys.length = zs.length → (List.range ys.length).all (fun j => ys.getD j Str.empty == zs.getD j Str.empty) = (ys == zs)
  | [], [], _ => rfl
  | y :: ys, z :: zs, h => by
    have ih := all_eq ys zs (by simpa using h)
    rw [List.length_cons, List.range_succ_eq_map, List.all_cons, List.all_map]
    show (y == z && _) = (y == z && ys == zs)
    rw [← ih]
    rfl
section
variable {prog : Program} {w : World} {A : Around} {E : Value → Shared → Prop} {s : Shared} {h₀ : Heap} {L a b : Addr} {nw : List (Addr × Obj)} {vs us : List Value} {ys zs : List Str} {n k : Nat} {Q : Value → Shared → Prop}
theorem eq_strs (N : News h₀ L s.heap nw) (ha : (a, listOf vs.toArray n) ∈ nw) (hi : StrsAre vs ys) (hb : (b, listOf us.toArray k) ∈ nw) (hi' : StrsAre us zs) (hu : A.units < cLine)
    (h : Q (.bool (ys == zs)) s) : wpAny (model prog w) A (compareOp .Eq (.ref a) (.ref b)) Q E s := by
  have l1 := hi.len_eq
  have l2 := hi'.len_eq
  by_cases hl : vs.length = us.length
  · refine PySem.SeqAt.eq_listAt (e := fun j => ys.getD j Str.empty == zs.getD j Str.empty) (lst_at N ha) (lst_at N hb) (by simpa using hl) hu (fun j h1 h2 => ?_) ?_
    · obtain ⟨t, e1⟩ := strs_get hi j (by simpa using h1)
      obtain ⟨u, e2⟩ := strs_get hi' j (by simpa using h2)
      have e1' : vs.toArray[j] = .str (ys.getD j Str.empty) t := by simpa using e1
      have e2' : us.toArray[j] = .str (zs.getD j Str.empty) u := by simpa using e2
      rw [e1', e2']
      intro prog w E Q hq
      exact eqGives_str _ _ _ _ _ _ _ _ _ _ hq
    · rw [List.size_toArray, l1, all_eq ys zs (by lia)]
      exact h
  · refine PySem.SeqAt.eq_list_lengthsAt (lst_at N ha) (lst_at N hb) (by simpa using hl) hu ?_
    have e : (ys == zs) = false := by
      rw [beq_eq_false_iff_ne]
      intro e; subst e; lia
    rw [e] at h
    exact h
end

end

section
open PySem PySem.W PyProof.Rows PySem.Calls PyProof.Rows.LCg
/-! a list comprehension of any length whose element leaves the ledger as it is -/
section
variable {prog : Program} {w : World} {A : Around} {h₀ : Heap} {L : Addr} {m : Str → Option Value} {env : Env} {elt : Expr} {x : Str} {scope : Scope} {cl : List (Str × Addr)} {s : Shared} {S : List (Addr × Obj) → Prop} {P : Nat → Value → Prop} {Fin : List Value → List (Addr × Obj) → Prop} {news : List (Addr × Obj)}
theorem comp_from (R : Nat → Value → Prop) (N : Nat) (hS : S news)
    (he : ∀ i ys v I oI C oC D m₂ h tk (E' : Value → Shared → Prop), i < N → P i v → NsObj oC m₂ → m₂ x = some v → Fr h₀ L h m → News h₀ L h ((I, oI) :: (C, oC) :: (D, lst ys) :: news) → Off3 I C D news → ((@Ne Nat I C) ∧ (@Ne Nat I D) ∧ (@Ne Nat C D)) →
      wpAny (model prog w) A (eval elt (compEnvC scope cl C env)) (fun y s' => ∃ h' tk', s' = { s with heap := h', toks := tk' } ∧ R i y ∧ Fr h₀ L h' m ∧ News h₀ L h' ((I, oI) :: (C, oC) :: (D, lst ys) :: news)) E' { s with heap := h, toks := tk })
    (hfin : ∀ ys, ys.length = N → (∀ i y, ys[i]? = some y → R i y) → Fin ys news) :
    ∀ k i ys, i + k = N → ys.length = i → (∀ j y, ys[j]? = some y → R j y) → CompRest prog w A h₀ L m env elt x scope cl s S P Fin k i ys news := by
  intro k
  induction k with
  | zero => intro i ys hk hl hy; exact .zero (hfin ys (by lia) hy)
  | succ k ih =>
    intro i ys hk hl hy
    refine .succ fun v I oI C oC D m₂ h tk E' hP hC hx F N' off ne => ?_
    refine wpAny_mono (he i ys v I oI C oC D m₂ h tk E' (by lia) hP hC hx F N' off ne) (fun y s' h' => ?_) fun _ _ e => e
    obtain ⟨h₁, tk₁, rfl, hR, F₁, N₁⟩ := h'
    refine ⟨h₁, tk₁, news, rfl, F₁, N₁, off, hS, ih (i + 1) (ys ++ [y]) (by lia) (by simp [hl]) fun j z hz => ?_⟩
    rcases Nat.lt_or_ge j ys.length with hj | hj
    · rw [List.getElem?_append_left hj] at hz
      exact hy j z hz
    · rw [List.getElem?_append_right hj] at hz
      have : j = i := by
        have := (List.getElem?_eq_some_iff.mp hz).1
        simp at this; lia
      subst this
      rw [show j - ys.length = 0 by lia] at hz
      cases hz
      exact hR
theorem comp_map (R : Nat → Value → Prop) {N : Nat} (hS : S news)
    (he : ∀ i ys v I oI C oC D m₂ h tk (E' : Value → Shared → Prop), i < N → P i v → NsObj oC m₂ → m₂ x = some v → Fr h₀ L h m → News h₀ L h ((I, oI) :: (C, oC) :: (D, lst ys) :: news) → Off3 I C D news → ((@Ne Nat I C) ∧ (@Ne Nat I D) ∧ (@Ne Nat C D)) →
      wpAny (model prog w) A (eval elt (compEnvC scope cl C env)) (fun y s' => ∃ h' tk', s' = { s with heap := h', toks := tk' } ∧ R i y ∧ Fr h₀ L h' m ∧ News h₀ L h' ((I, oI) :: (C, oC) :: (D, lst ys) :: news)) E' { s with heap := h, toks := tk })
    (hfin : ∀ ys, ys.length = N → (∀ i y, ys[i]? = some y → R i y) → Fin ys news) : CompRest prog w A h₀ L m env elt x scope cl s S P Fin N 0 [] news :=
  comp_from R N hS he hfin N 0 [] (Nat.zero_add N) rfl (fun _ _ h => by simp at h)
end
/-- texts by their places -/
theorem strs_of {f : Nat → Str} : ∀ {vs : List Value} {n : Nat}, vs.length = n → (∀ i v, vs[i]? = some v → ∃ u, v = Value.str (f i) u) → StrsAre vs ((List.range n).map f)
  | [], n, h, _ => by cases h; exact .nil
  | v :: vs, n, h, hv => by
    obtain ⟨n, rfl⟩ : ∃ k, n = k + 1 := ⟨vs.length, by simpa using h.symm⟩
    obtain ⟨u, rfl⟩ := hv 0 v rfl
    rw [List.range_succ_eq_map, List.map_cons, List.map_map]
    exact .cons _ _ (strs_of (f := f ∘ Nat.succ) (by simpa using h) fun i v hi => hv (i + 1) v (by simpa using hi))
end

section
open PySem PySem.W PyProof.Rows PySem.Calls PyProof.Rows.LCg
/-! a loop over a list of the ledger whose state says its whole ledger -/
/-- between the turns -/
noncomputable def StAt {σ : Type} (Led : σ → List (Addr × Obj)) (ps : σ → List (Str × Value)) (stored : List Str) (x : Str) (m₀ : Str → Option Value) (P : σ → Prop) (m' : Str → Option Value) (nx : List (Addr × Obj)) : Prop :=
  ∃ c : σ, nx = Led c ∧ (∀ p ∈ ps c, m' p.1 = some p.2) ∧ (∀ z, z ≠ x → (∀ p ∈ ps c, z ≠ p.1) → stored.contains z = false → m' z = m₀ z) ∧ P c
section
variable {prog : Program} {w : World} {A : Around} {E : Value → Shared → Prop} {s : Shared} {env : Env} {h₀ : Heap} {x : Str} {body : List Stmt} {Q : Flow → Shared → Prop}
theorem loop_st {σ : Type} {l : Addr} {vs : List Value} {nn : Nat} {m₀ : Str → Option Value} (Led : σ → List (Addr × Obj)) (ps : σ → List (Str × Value)) (stored : List Str) (P : Nat → σ → Prop) (c₀ : σ)
    (hh : A.handled = none) (hl : ∀ i c, P i c → (l, listOf vs.toArray nn) ∈ Led c) (F : Fr h₀ env.locals s.heap m₀) (N : News h₀ env.locals s.heap (Led c₀)) (hk : ∀ p ∈ ps c₀, m₀ p.1 = some p.2) (hp : P 0 c₀)
    (turn : ∀ (c : σ) i v (u : Str → Option Value) h tk own, vs[i]? = some v → OwnOff own ((Led c).map (·.1)) → P i c →
      Fr h₀ env.locals h (fun y => if y = x then some v else kstB (fun z => if stored.contains z then u z else m₀ z) (ps c) y) → News h₀ env.locals h (Led c ++ own) →
      wpAny (model prog w) A (execs body env) (InvPostG h₀ env.locals (StAt Led ps stored x m₀ (P (i + 1))) own { s with heap := h, toks := tk } Q) E { s with heap := h, toks := tk })
    (done : ∀ (c : σ) (u : Str → Option Value) h tk, P vs.length c → Fr h₀ env.locals h (fun y => if y = x then u y else kstB (fun z => if stored.contains z then u z else m₀ z) (ps c) y) → News h₀ env.locals h (Led c) → Q .next { s with heap := h, toks := tk }) :
    wpAny (model prog w) A (pyIter (.ref l)) (fun it s₂ => LoopAtV prog w A h₀ env x body Q E it s₂) E s := by
  refine kdl_iter (fun i m nx => StAt Led ps stored x m₀ (P i) m nx) hh (hl 0 c₀ hp) F N ⟨c₀, rfl, hk, fun _ _ _ _ => rfl, hp⟩ ?_ ?_
  · intro i v m₁ nx h tk own hv hoff _ hI9 F₁ N₁
    refine Classical.byContradiction fun hng9 => ?_
    obtain ⟨c, rfl, h1, h2, hp'⟩ := hI9
    refine hng9 ?_
    clear hng9
    refine wpAny_mono (turn c i v m₁ h tk own hv hoff hp' (kst_fr h1 h2 F₁) N₁) (fun f s₂ p => ?_) fun _ _ e => e
    have fin : InvEndG h₀ env.locals (StAt Led ps stored x m₀ (P (i + 1))) own { s with heap := h, toks := tk } s₂ → InvEndG h₀ env.locals (fun m' nx => (l, listOf vs.toArray nn) ∈ nx ∧ StAt Led ps stored x m₀ (P (i + 1)) m' nx) own { s with heap := h, toks := tk } s₂ := by
      intro hI9
      refine Classical.byContradiction fun hng9 => ?_
      obtain ⟨h', tk', m', news', nx, e, F', N', hn', ho, ha, hm⟩ := hI9
      refine hng9 ?_
      clear hng9
      refine ⟨h', tk', m', news', nx, e, F', N', hn', ho, ha, ?_, hm⟩
      refine Classical.byContradiction fun hng9 => ?_
      obtain ⟨c', rfl, _, _, hp''⟩ := hm
      refine hng9 ?_
      clear hng9
      exact hl _ _ hp''
    cases f with
    | ret v => exact p
    | brk => exact p
    | next => exact fin p
    | cont => exact fin p
  · intro m₁ nx h tk hI9 F₁ N₁
    refine Classical.byContradiction fun hng9 => ?_
    obtain ⟨c, rfl, h1, h2, hp'⟩ := hI9
    refine hng9 ?_
    clear hng9
    exact done c m₁ h tk hp' (kst_frOut h1 h2 F₁) N₁
/-- a turn's end -/
theorem st_end {σ : Type} {Led : σ → List (Addr × Obj)} {ps : σ → List (Str × Value)} {stored : List Str} {m₀ m' : Str → Option Value} {P : σ → Prop} {own nw : List (Addr × Obj)} {s₁ : Shared} {h' : Heap} {tk : Nat} {L : Addr} (c : σ)
    (F : Fr h₀ L h' m') (N : News h₀ L h' nw) (hn : ∀ p ∈ Led c, p ∈ nw) (ho : ∀ p ∈ own, p ∈ nw) (ha : OwnOff own ((Led c).map (·.1))) (hk : ∀ p ∈ ps c, m' p.1 = some p.2)
    (hr : ∀ z, z ≠ x → (∀ p ∈ ps c, z ≠ p.1) → stored.contains z = false → m' z = m₀ z) (hp : P c) :
    InvEndG h₀ L (StAt Led ps stored x m₀ P) own s₁ { s₁ with heap := h', toks := tk } := ⟨h', tk, m', nw, Led c, rfl, F, N, hn, ho, ha, c, rfl, hk, hr, hp⟩
end
/-! a comprehension that keeps what passes a test -/
section
open LCt
variable {prog : Program} {w : World} {A : Around} {h₀ : Heap} {L : Addr} {m : Str → Option Value} {env : Env} {ct elt : Expr} {x : Str} {scope : Scope} {cl : List (Str × Addr)} {s : Shared} {S : List (Addr × Obj) → Prop} {P : Nat → Value → Prop} {Fin : List Value → List (Addr × Obj) → Prop} {news : List (Addr × Obj)}
theorem comp_test (its : List Value) (f : Nat → Bool) (hP : ∀ i v, P i v → its[i]? = some v) (hS : S news)
    (ht : ∀ (i : Nat) ys v I oI C oC D m₂ h tk (E' : Value → Shared → Prop), its[i]? = some v → NsObj oC m₂ → m₂ x = some v → Fr h₀ L h m → News h₀ L h ((I, oI) :: (C, oC) :: (D, lst ys) :: news) → Off3 I C D news → ((@Ne Nat I C) ∧ (@Ne Nat I D) ∧ (@Ne Nat C D)) →
      wpAny (model prog w) A (isTrue ct (compEnvC scope cl C env) (eval ct (compEnvC scope cl C env))) (fun b s' => b = f i ∧ ∃ h' tk', s' = { s with heap := h', toks := tk' } ∧ Fr h₀ L h' m ∧ News h₀ L h' ((I, oI) :: (C, oC) :: (D, lst ys) :: news)) E' { s with heap := h, toks := tk })
    (he : ∀ (i : Nat) ys v I oI C oC D m₂ h tk (E' : Value → Shared → Prop), its[i]? = some v → NsObj oC m₂ → m₂ x = some v → Fr h₀ L h m → News h₀ L h ((I, oI) :: (C, oC) :: (D, lst ys) :: news) → Off3 I C D news → ((@Ne Nat I C) ∧ (@Ne Nat I D) ∧ (@Ne Nat C D)) →
      wpAny (model prog w) A (eval elt (compEnvC scope cl C env)) (fun y s' => y = v ∧ ∃ h' tk', s' = { s with heap := h', toks := tk' } ∧ Fr h₀ L h' m ∧ News h₀ L h' ((I, oI) :: (C, oC) :: (D, lst ys) :: news)) E' { s with heap := h, toks := tk })
    (hfin : Fin ((its.zipIdx.filter fun p => f p.2).map (·.1)) news) : CompRestT prog w A h₀ L m env ct elt x scope cl s S P Fin its.length 0 [] news := by
  have main : ∀ k i ys, i + k = its.length → ys = (((its.take i).zipIdx.filter fun p => f p.2).map (·.1)) → CompRestT prog w A h₀ L m env ct elt x scope cl s S P Fin k i ys news := by
    intro k
    induction k with
    | zero =>
      intro i ys hk hy
      refine .zero ?_
      rw [hy, List.take_of_length_le (by lia)]
      exact hfin
    | succ k ih =>
      intro i ys hk hy
      have hi : i < its.length := by lia
      have next : ∀ v, its[i]? = some v → (((its.take (i + 1)).zipIdx.filter fun p => f p.2).map (·.1)) = ys ++ (if f i then [v] else []) := by
        intro v hv
        rw [List.take_add_one, hv, List.zipIdx_append, List.filter_append, List.map_append, ← hy]
        have hl : (its.take i).length = i := by rw [List.length_take]; lia
        simp only [Option.toList, hl, List.zipIdx_cons, List.zipIdx_nil, Nat.zero_add]
        by_cases hf : f i = true
        · simp [hf]
        · simp [hf]
      refine .succ fun v I oI C oC D m₂ h tk E' hPv hC hx F N off ne => ?_
      have hv := hP _ _ hPv
      refine wpAny_mono (ht i ys v I oI C oC D m₂ h tk E' hv hC hx F N off ne) (fun b s' h' => ?_) fun _ _ e => e
      refine Classical.byContradiction fun hng9 => ?_
      obtain ⟨rfl, h₁, tk₁, rfl, F₁, N₁⟩ := h'
      refine hng9 ?_
      clear hng9
      by_cases hf : f i = true
      · rw [if_pos hf]
        refine wpAny_mono (he i ys v I oI C oC D m₂ h₁ tk₁ E' hv hC hx F₁ N₁ off ne) (fun y s' h' => ?_) fun _ _ e => e
        refine Classical.byContradiction fun hng9 => ?_
        obtain ⟨rfl, h₂, tk₂, rfl, F₂, N₂⟩ := h'
        refine hng9 ?_
        clear hng9
        refine ⟨h₂, tk₂, news, rfl, F₂, N₂, off, hS, ih (i + 1) _ (by lia) ?_⟩
        rw [next y hv, if_pos hf]
      · rw [if_neg hf]
        refine ⟨h₁, tk₁, news, rfl, F₁, N₁, off, hS, ih (i + 1) _ (by lia) ?_⟩
        rw [next v hv, if_neg hf, List.append_nil]
  exact main its.length 0 [] (Nat.zero_add _) rfl
end
/-- a list compared with the empty one -/
theorem eq_nil {prog : Program} {w : World} {A : Around} {E : Value → Shared → Prop} {s : Shared} {h₀ : Heap} {L a b : Addr} {nw : List (Addr × Obj)} {vs : List Value} {n k : Nat} {Q : Value → Shared → Prop}
    (N : News h₀ L s.heap nw) (ha : (a, listOf vs.toArray n) ∈ nw) (hb : (b, listOf #[] k) ∈ nw) (hu : A.units < cLine) (h : Q (.bool vs.isEmpty) s) : wpAny (model prog w) A (compareOp .Eq (.ref a) (.ref b)) Q E s := by
  have hb' : (b, listOf ([] : List Value).toArray k) ∈ nw := hb
  cases vs with
  | nil => exact PySem.SeqAt.eq_listAt (e := fun _ => true) (lst_at N ha) (lst_at N hb') rfl hu (fun j h1 _ => absurd h1 (Nat.not_lt_zero _)) h
  | cons v vs => exact PySem.SeqAt.eq_list_lengthsAt (lst_at N ha) (lst_at N hb') (by simp) hu h
section
variable {prog : Program} {w : World} {A : Around} {E : Value → Shared → Prop} {s : Shared} {h₀ : Heap} {L a b : Addr} {nw : List (Addr × Obj)} {vs us : List Value} {ys zs : List Str} {n k : Nat} {Q : Value → Shared → Prop}
theorem ne_nil (N : News h₀ L s.heap nw) (ha : (a, listOf vs.toArray n) ∈ nw) (hb : (b, listOf #[] k) ∈ nw) (hu : A.units < cLine) (h : Q (.bool (!vs.isEmpty)) s) : wpAny (model prog w) A (compareOp .NotEq (.ref a) (.ref b)) Q E s := by
  have hb' : (b, listOf ([] : List Value).toArray k) ∈ nw := hb
  cases vs with
  | nil => exact PySem.SeqAt.RcNeAt.lists (e := fun _ => true) (lst_at N ha) (lst_at N hb') rfl hu (fun j h1 _ => absurd h1 (Nat.not_lt_zero _)) prog w E Q h
  | cons v vs => exact PySem.SeqAt.RcNeAt.lists_lengths (lst_at N ha) (lst_at N hb') (by simp) hu prog w E Q h
theorem ne_strs (N : News h₀ L s.heap nw) (ha : (a, listOf vs.toArray n) ∈ nw) (hi : StrsAre vs ys) (hb : (b, listOf us.toArray k) ∈ nw) (hi' : StrsAre us zs) (hu : A.units < cLine)
    (h : Q (.bool (!(ys == zs))) s) : wpAny (model prog w) A (compareOp .NotEq (.ref a) (.ref b)) Q E s := by
  have l1 := hi.len_eq
  have l2 := hi'.len_eq
  by_cases hl : vs.length = us.length
  · refine PySem.SeqAt.RcNeAt.lists (e := fun j => ys.getD j Str.empty == zs.getD j Str.empty) (lst_at N ha) (lst_at N hb) (by simpa using hl) hu (fun j h1 h2 => ?_) prog w E Q ?_
    · obtain ⟨t, e1⟩ := strs_get hi j (by simpa using h1)
      obtain ⟨u, e2⟩ := strs_get hi' j (by simpa using h2)
      have e1' : vs.toArray[j] = .str (ys.getD j Str.empty) t := by simpa using e1
      have e2' : us.toArray[j] = .str (zs.getD j Str.empty) u := by simpa using e2
      rw [e1', e2']
      intro prog w E Q hq
      exact eqGives_str _ _ _ _ _ _ _ _ _ _ hq
    · rw [List.size_toArray, l1, all_eq ys zs (by lia)]
      exact h
  · refine PySem.SeqAt.RcNeAt.lists_lengths (lst_at N ha) (lst_at N hb) (by simpa using hl) hu prog w E Q ?_
    have e : (ys == zs) = false := by
      rw [beq_eq_false_iff_ne]
      intro e; subst e; lia
    rw [e] at h
    exact h
end
/-! both ways of a statement meet, nothing but heap and tokens turned -/
noncomputable def MeetK {σ : Type} (s : Shared) (h₀ : Heap) (L : Addr) (Led : σ → List (Addr × Obj)) (ps : σ → List (Str × Value)) (stored : List Str) (m₀ : Str → Option Value) (P : σ → Prop) (s₂ : Shared) : Prop :=
  (∃ h' tk, s₂ = { s with heap := h', toks := tk }) ∧ MeetL h₀ L Led ps stored m₀ P s₂
theorem meetK {σ : Type} {s : Shared} {h₀ : Heap} {L : Addr} {Led : σ → List (Addr × Obj)} {ps : σ → List (Str × Value)} {stored : List Str} {m₀ m' : Str → Option Value} {P : σ → Prop} {h' : Heap} {tk : Nat} {nw : List (Addr × Obj)} (c : σ) (F : Fr h₀ L h' m') (N : News h₀ L h' nw)
    (hn : ∀ p ∈ Led c, p ∈ nw) (hk : ∀ p ∈ ps c, m' p.1 = some p.2) (hr : ∀ z, (∀ p ∈ ps c, z ≠ p.1) → stored.contains z = false → m' z = m₀ z) (hp : P c) : MeetK s h₀ L Led ps stored m₀ P { s with heap := h', toks := tk } :=
  ⟨⟨h', tk, rfl⟩, c, m', nw, F, N, hn, hk, hr, hp⟩
section
variable {prog : Program} {w : World} {A : Around} {E : Value → Shared → Prop} {s : Shared} {h₀ : Heap} {L : Addr}
theorem cutK {σ : Type} {t : Sem Flow} {Q : Flow → Shared → Prop} {m₀ : Str → Option Value} (_F : Fr h₀ L s.heap m₀) (Led : σ → List (Addr × Obj)) (ps : σ → List (Str × Value)) (stored : List Str) (P : σ → Prop)
    (h1 : ∀ R : Flow → Shared → Prop, (∀ s', MeetK s h₀ L Led ps stored m₀ P s' → R .next s') → wpAny (model prog w) A t R E s)
    (h2 : ∀ (c : σ) (u : Str → Option Value) (h : Heap) (tk : Nat), P c → Fr h₀ L h (kstB (fun z => if stored.contains z then u z else m₀ z) (ps c)) → News h₀ L h (Led c) → Q .next { s with heap := h, toks := tk }) :
    wpAny (model prog w) A t Q E s :=
  wpAny_mono (h1 (fun f s' => f = .next ∧ MeetK s h₀ L Led ps stored m₀ P s') fun _ h => ⟨rfl, h⟩) (fun f s' h => by
    refine Classical.byContradiction fun hng9 => ?_
    obtain ⟨rfl, ⟨h', tk, rfl⟩, hm⟩ := h
    refine hng9 ?_
    clear hng9
    refine Classical.byContradiction fun hng9 => ?_
    obtain ⟨c, u, hp, F, N⟩ := meet_use hm
    refine hng9 ?_
    clear hng9
    exact h2 c u h' tk hp F N) fun _ _ e => e
end
end

section
open PySem PySem.W PyProof.Rows PySem.Calls PyProof.Rows.LCg
/-! a list comprehension over a list of the ledger whose element may turn anything (generators too): J says turn, answers, ledger -/
section
variable {prog : Program} {w : World} {A : Around} {E : Value → Shared → Prop} {s : Shared} {h₀ : Heap} {L : Addr} {m : Str → Option Value} {env : Env}
/-- no code record's name: holds of a list's iterator -/
noncomputable def NoTxt (o : Obj) : Prop := ∀ (vs : Array Value) (y : Str) (t : Tok), o.data = .fields vs → vs[1]? = some (.str y t) → False
end
end

section
open PySem PySem.W PyProof.Rows PySem.Calls
/-- the law's end where generators have been made: they are bare -/
theorem kn_postA {M : Model} {A : Around} {cd : Code} {s s₁ : Shared} {cw : ClaimW} {c : Str → Option Addr} {mean : ExcName → Option Value} {args : List WData} {tabs : List (Addr × Addr)} (hT : TabsAt tabs s₁.heap) (hr : ∀ a x, cw.raises a x = false)
    (h : codeAny M A cd (fun r s' => (GoodW cw c mean args { s₁ with heap := ghostOf s₁.heap tabs } r { s' with gens := #[] } ∧ AllBare s'.gens) ∧ GrownAll tabs s'.heap) s) : codeAny M A cd (GoodWG cw c mean args s₁) s := by
  refine codeAny_mono h fun r s' g => ?_
  obtain ⟨⟨⟨hc, hk, hos, _⟩, hbare⟩, hgr⟩ := g
  have other : ∀ b o, b ∉ tabs.map (·.2) → s₁.heap.get? b = some o → s'.heap.get? b = some o := fun b o hb e => hk b o (ghost_ne e hb)
  have table : ∀ b o, b ∈ tabs.map (·.2) → s₁.heap.get? b = some o → isCodeTable s₁.heap b ∧ o = tabObj #[] ∧ ∃ ps, s'.heap.get? b = some (tabObj ps) := by
    intro b o hb e
    obtain ⟨q, hq, rfl⟩ := List.mem_map.mp hb
    have e2 := (hT q hq).2
    rw [e] at e2
    exact ⟨((hT q hq).1.tab (hT q hq).2).isCodeTable, Option.some.inj e2, hgr.get q hq⟩
  refine ⟨?_, ⟨?_, ?_⟩, hos, hbare⟩
  · rcases hc with ⟨v, d, as, r1, r2, r3, r4, r5⟩ | ⟨e, ob, x, _, _, _, r4, _⟩
    · refine .inl ⟨v, d, as, r1, r2, r3, r4, fun q => ⟨(r5 q).1, fun a ha => ?_⟩⟩
      cases q1 : s₁.heap.get? a with
      | none => rfl
      | some o =>
        by_cases hb : a ∈ tabs.map (·.2)
        · obtain ⟨_, _, ps, hP⟩ := table a o hb q1
          exact absurd ha (readsW_apart hP rfl r3)
        · have e3 := (r5 q).2 a ha
          rw [show (ghostOf s₁.heap tabs).get? a = some o from ghost_ne q1 hb] at e3
          cases e3
    · rw [hr] at r4; cases r4
  · intro b o e
    by_cases hb : b ∈ tabs.map (·.2)
    · obtain ⟨ht, rfl, ps, hP⟩ := table b o hb e
      exact .inr (.inl ⟨ht, rfl, #[], ps, rfl, by rw [Array.empty_append]; exact hP⟩)
    · exact .inl (other b o hb e)
  · intro b o e
    by_cases hb : b ∈ tabs.map (·.2)
    · obtain ⟨_, _, ps, hP⟩ := table b o hb e
      exact ⟨_, hP⟩
    · exact ⟨o, other b o hb e⟩
end

section
open PySem PySem.W PyProof.Rows PySem.Calls
theorem mw_P6_0 : True := by
  k_with_none
  trivial
theorem mw_P6_1 : True := by
  (k_with "Mdrop" => first | assumption | (refine' cb_drop ?cbN ?cbS; (case cbN => assumption); (case cbS => kcj_all)))
  (k_with "Muse" => (
        (case k1 => first | k_asm | ktn_no "use: the frames below")
        (case k2 => first | k_asm | ktn_no "use: the frame")
        (case k3 => first | k_asm | ktn_no "use: the written part")
        (case k4 => first | k_asm | ktn_no "use: the ledger")
        (case k5 => first | k_asm | ktn_no "use: the top's facts")
        (case k6 => first | exact rfl | assumption | ktn_no "use: the caller is no def")
        (case k7 => first | ktr_room | ktn_no "use: the frames' room")
        (case k8 => first | ktr_units | ktn_no "use: the C units")))
  trivial
theorem gm_translate {M : Model} {A : Around} {E : Value → Shared → Prop} {s : Shared} {x : Str} {t : Tok} {pl : Sem Bool} {Q : Value × List Value → Shared → Prop} (h : Q (.builtin "str.translate", [.str x t]) s) : wpAny M A (getMethod (.str x t) (Str.ofString "translate") pl) Q E s := by
  with_reducible exact GM.of (.str x t) (typeIs_str _ _ _) F.slot_str_translate F.type_str_translate GM.noRef h
noncomputable def escEs (P : Params) : Array DictEntry := match (hd.heap_39 P).lookup 160 with | some ⟨_, _, .dict es _, _⟩ => es | _ => #[]
noncomputable def escN (P : Params) : Nat := match (hd.heap_39 P).lookup 160 with | some ⟨_, _, .dict _ n, _⟩ => n | _ => 0
theorem esc_obj (P : Params) : (hd.heap_39 P).lookup 160 = some ⟨.type "dict", none, .dict (escEs P) (escN P), #[]⟩ := rfl
theorem esc_keys (P : Params) : ((escEs P).all fun e => match e.key with | .int k _ => e.hash == hashInt k | _ => false) = true := by kernel_rfl
theorem esc_ok (P : Params) : escOk (escEs P) = true := by kernel_rfl
theorem mw_P6_2 : True := by
  (k_with "call builtin:str.translate" => (k_here; k_dflt (refine' translate_K ?k1 ?k2 ?k3 ?k4 (esc_obj _) (esc_keys _) (esc_ok _) ?k5 ?k6 ?_; (case k1 => k_asm); (case k2 => k_asm); (case k3 => k_asm); (case k4 => exact rfl); (case k5 => rfl); (case k6 => assumption); k_whole); intro _ _ _ _ _))
  (k_with "getMethod str" => ((with_reducible show wpAny _ _ (getMethod (Value.str _ _) (PySem.Str.ofString "translate") _) _ _ _); (with_reducible refine gm_translate ?_)))
  trivial
theorem escape_does (w : World) (mean : ExcName → Option Value) (mg mb : Str → Option Value) (news : List (Addr × Obj)) (c : Nat) (t : Tok) (hc : c < 128) :
  Does PySem.Challenge.rw_rx0110_01.row.prog w (hd.heap_39 w.params) topProg (looseW hd.view_39 [Str.ofString "_twin_re_1", Str.ofString "_special_chars_map"] ++ (recsOf hd.view_39).map (fun x => x.name) ++ (litsOf hd.view_39).map (fun x => x.1) ++ (clssOf hd.view_39 (looseW hd.view_39 [Str.ofString "_twin_re_1", Str.ofString "_special_chars_map"])).map (fun x => x.name)) mean mg mb 170 1 news [Value.str ⟨#[c]⟩ t] (fun n r => news = n ∧ ∃ u, r = .str (escS c) u) := by
  k_fill
  unfold Does
  intro dp un gd cn cs a ccd cl outer A₀ base h₀ L m s Q E B F X N T hk hd hu hret
  refine wpAny_call ?_
  (k_dflt cell_enter)
  k_steps
  all_goals exact hret news _ _ _ ⟨rfl, _, rfl⟩ (by assumption) (by walk_at "Mdrop")
end

section
open PySem PySem.W PyProof.Rows PySem.Calls
/-! a text in a box: f'[{name}]' -/
section
variable {M : Model} {A : Around} {E : Value → Shared → Prop} {s : Shared} {h₀ : Heap} {L a : Addr} {m : Str → Option Value} {cn : Str} {cs : Scope} {ccd : Value} {cl : List (Str × Addr)} {x y p q : Str} {t : Tok} {ka kb : Nat} {px pa pf pb pos : Pos} {Q : Value → Shared → Prop}
theorem fstr_name (F : Fr h₀ L s.heap m) (hv : m x = some (.str y t)) (hp : p.length ≤ 16) (hq : q.length ≤ 16) (hy : y.length ≤ 1000000) (h : ∀ t' k, 0 < k → Q (.str (Str.empty ++ p ++ y ++ q) t') { s with toks := k })
    (hk : cs.kind = .function := by rfl) (hx : (envX cn cs L a ccd cl).kindOf x = some .local := by rfl) (hd : (x == ("__debug__" : Str)) = false := by decide) :
    wpAny M A (eval (.JoinedStr [.Constant (.str p) ka pa, .FormattedValue (.Name x px) (-1) none pf, .Constant (.str q) kb pb] pos) (envX cn cs L a ccd cl)) Q E s := by
  have e0 : Str.empty.length = 0 := rfl
  have z1 : (Str.empty ++ p).length ≤ sizeLine := by rw [strLen_append, e0, sizeLine_eq]; omega
  have z2 : (Str.empty ++ p ++ y).length ≤ sizeLine := by rw [strLen_append, strLen_append, e0, sizeLine_eq]; omega
  have z3 : (Str.empty ++ p ++ y ++ q).length ≤ sizeLine := by rw [strLen_append, strLen_append, strLen_append, e0, sizeLine_eq]; omega
  have z4 : y.length ≤ sizeLine := by rw [sizeLine_eq]; omega
  refine JoinedStr_many (joinParts_cons (Constant_str ⟨z1, ?_⟩))
  refine joinParts_cons (FormattedValue_plain (nameX_L F hv ?_ hk hx hd))
  refine formatField_str (fun t' tk => ⟨z2, ?_⟩) z4
  refine joinParts_consE (joinParts_cons (Constant_str ⟨z3, ?_⟩))
  exact joinParts_nilE (joinParts_nil (h _ _ (Nat.succ_pos _)) z3)
end
theorem le_mil {n : Nat} (h : n ≤ 100000) : n ≤ 1000000 := Nat.le_trans h (by decide)
theorem le_mil1 {n : Nat} (h : n ≤ 100000) : 1 + n ≤ 1000000 := by omega
end

section
open PySem PySem.W PyProof.Rows PySem.Calls
theorem mw_P7_0 : True := by
  k_with_none
  trivial
theorem mw_P7_1 : True := by
  (k_with "Mdrop" => first | assumption | (refine' cb_drop ?cbN ?cbS; (case cbN => assumption); (case cbS => kcj_all)))
  (k_with "Muse" => (
        (case k1 => first | k_asm | ktn_no "use: the frames below")
        (case k2 => first | k_asm | ktn_no "use: the frame")
        (case k3 => first | k_asm | ktn_no "use: the written part")
        (case k4 => first | k_asm | ktn_no "use: the ledger")
        (case k5 => first | k_asm | ktn_no "use: the top's facts")
        (case k6 => first | exact rfl | assumption | ktn_no "use: the caller is no def")
        (case k7 => first | ktr_room | ktn_no "use: the frames' room")
        (case k8 => first | ktr_units | ktn_no "use: the C units")))
  trivial
theorem mw_P7_2 : True := by
  (k_with "exec While Compare cons nil" => (refine stuck_at ?_))
  (k_with "getAttr ref" => (k_dflt (refine' app_bound ?k1 ?k2 ?k3 ?_; (case k1 => k_asm); (case k2 => k_asm); (case k3 => k_mem); k_whole); intro _ _ _ _ l1; (try k_lt l1); (try (revert l1; intro _))))
  trivial
structure TrS where
  i : Nat
  ti : Tok
  vs : List Value
  tb : Array Value
  ex : List (Addr × Obj)
  fuel : Nat
  out : List (Option Str)
noncomputable abbrev posL : Pos := ⟨190, 39, 190, 76⟩
noncomputable abbrev TrOk (x : Str) (rest : List (Addr × Obj)) (D B : Addr) (fin : List (Option Str)) (c : TrS) : Prop :=
  c.i ≤ x.length ∧ OutAre c.vs c.out ∧ c.out.length ≤ c.i ∧ TabOk posL (Str.ofString "_translate.<locals>.<lambda>") (c.ex ++ rest) c.tb ∧ trF x c.fuel c.i c.out = some fin ∧ (∀ q ∈ c.ex, q.1 ≠ 172 ∧ q.1 ≠ D ∧ q.1 ≠ B)
theorem mw_P7_3 : True := by
  (k_with "exec If BoolOp cons nil" => (refine stuck_at ?_))
  (k_with "callWith ref" => (k_dflt (refine' callWith_bnd ?k1 ?k2 ?_ ?k3 ?k4; (case k1 => k_asm); (case k2 => k_mem); (case k3 => rfl); (case k4 => rfl); k_whole)))
  (k_with "And" => ((with_reducible show BndAt _ _ _ ∧ _); k_dflt (refine' And.intro (a := BndAt _ _ _) (bnd_of ?k1 ?k2) ?_; (case k1 => k_asm); (case k2 => k_mem); k_whole)))
  (k_with "call ref" => (k_dflt (refine' call_bnd ?k1 ?k2 ?k3 ?k4 ?_ ?k5; (case k1 => k_asm); (case k2 => k_asm); (case k3 => k_mem); (case k4 => k_upd); (case k5 => (simp only [List.size_toArray, sizeLine_eq]; omega)); k_whole); intro _ _ _))
  trivial
local macro_rules | `(tactic| k_all) => `(tactic| assumption)
theorem mw_P7_4 : True := by
  (k_with "call ref" => ((with_reducible show wpAny _ _ (call (Value.ref 170) _) _ _ _); (refine stuck_at ?_)))
  (k_with "truthy ref" => (k_here; (with_reducible show wpAny _ _ (truthy (Value.ref _)) _ _ _); k_dflt (refine' tru_snoc ?k1 ?k2 ?k3 ?_; (case k1 => k_asm); (case k2 => k_mem); (case k3 => assumption); k_whole)))
  (k_with "subscriptTail Name UnaryOp ref int" => (k_here; (with_reducible show wpAny _ _ (subscriptTail _ _ (Value.ref _) (Value.int _ _)) _ _ _); k_dflt (refine' item_snoc ?k1 ?k2 ?k3 ?_; (case k1 => k_asm); (case k2 => k_mem); (case k3 => assumption); k_whole)))
  trivial
/-- a turn's end -/
theorem tr_go {o : OsState} {h₀ : Heap} {L D Bn : Addr} {rest : List (Addr × Obj)} {x : Str} {fin : List (Option Str)} {stored : List Str} {m₀ m' : Str → Option Value} {Q : Flow → Shared → Prop} {k : Nat} {s₂ : Shared} {its : Array Value} {n : Nat} {iv : Int} (i : Nat) (ti : Tok) (vs : List Value) (tb : Array Value) (ex : List (Addr × Obj)) (fuel : Nat) (out : List (Option Str))
    (F : Fr h₀ L s₂.heap m') (N : News h₀ L s₂.heap ((172, tabObj tb) :: (D, listOf its n) :: (Bn, bndApp D) :: (ex ++ rest))) (he : its = vs.toArray) (hn : n = vs.length) (hk : m' (Str.ofString "i") = some (.int iv ti)) (hiv : iv = (i : Int)) (hr : ∀ z, z ≠ Str.ofString "i" → stored.contains z = false → m' z = m₀ z)
    (hi : i ≤ x.length) (hO : OutAre vs out) (hol : out.length ≤ i) (hT : TabOk posL (Str.ofString "_translate.<locals>.<lambda>") (ex ++ rest) tb) (hf : trF x fuel i out = some fin) (hex : ∀ q ∈ ex, q.1 ≠ 172 ∧ q.1 ≠ D ∧ q.1 ≠ Bn) (hlt : fuel < k)
    (hB : Bare o s₂ := by first | with_reducible assumption | exact And.right (by with_reducible assumption) | assumption | exact And.right (by assumption)) :
    WhlG o h₀ L (fun c : TrS => (172, tabObj c.tb) :: (D, listOf c.vs.toArray c.vs.length) :: (Bn, bndApp D) :: (c.ex ++ rest)) (fun c => [(Str.ofString "i", .int (c.i : Int) c.ti)]) stored m₀ (TrOk x rest D Bn fin) (fun c => c.fuel) Q k .next s₂ := by
  subst he hn hiv
  exact meet (⟨i, ti, vs, tb, ex, fuel, out⟩ : TrS) F N (fun _ h => h) (List.forall_mem_cons.mpr ⟨hk, fun _ h => nomatch h⟩) (fun z hz hp9 => hr z (hz _ (.head _)) hp9) ⟨⟨hi, hO, hol, hT, hf, hex⟩, hlt⟩
theorem mw_P7_5 : True := by
  (k_with "exec While BoolOp cons nil" => (refine stuck_at ?_))
  (k_with "exec While Constant cons nil" => (refine stuck_at ?_))
  (k_with "exec If Compare cons cons" => ((with_reducible show wpAny _ _ (exec (Stmt.If (Expr.Compare (Expr.Constant _ _ _) _ _ _) _ _ _) _) _ _ _); (refine stuck_at ?_)))
  trivial
/-- a turn's end with a text put down -/
theorem tr_goT {o : OsState} {h₀ : Heap} {L D Bn : Addr} {rest nw : List (Addr × Obj)} {x y y' : Str} {tk : Tok} {fin : List (Option Str)} {stored : List Str} {m₀ m' : Str → Option Value} {Q : Flow → Shared → Prop} {k : Nat} {s₂ : Shared} {iv : Int} {ti : Tok} (i : Nat) (vs : List Value) (tb : Array Value) (ex : List (Addr × Obj)) (fuel : Nat) (out : List (Option Str))
    (F : Fr h₀ L s₂.heap m') (N : News h₀ L s₂.heap nw) (hs : ∀ p ∈ (172, tabObj tb) :: (D, listOf (vs.toArray.push (.str y tk)) (vs.length + 1)) :: (Bn, bndApp D) :: (ex ++ rest), p ∈ nw) (hy : y = y') (hk : m' (Str.ofString "i") = some (.int iv ti)) (hiv : iv = (i : Int)) (hr : ∀ z, z ≠ Str.ofString "i" → stored.contains z = false → m' z = m₀ z)
    (hi : i ≤ x.length) (hO : OutAre vs out) (hol : out.length + 1 ≤ i) (hT : TabOk posL (Str.ofString "_translate.<locals>.<lambda>") (ex ++ rest) tb) (hf : trF x fuel i (out ++ [some y']) = some fin) (hex : ∀ q ∈ ex, q.1 ≠ 172 ∧ q.1 ≠ D ∧ q.1 ≠ Bn) (hlt : fuel < k)
    (hB : Bare o s₂ := by first | with_reducible assumption | exact And.right (by with_reducible assumption) | assumption | exact And.right (by assumption)) :
    WhlG o h₀ L (fun c : TrS => (172, tabObj c.tb) :: (D, listOf c.vs.toArray c.vs.length) :: (Bn, bndApp D) :: (c.ex ++ rest)) (fun c => [(Str.ofString "i", .int (c.i : Int) c.ti)]) stored m₀ (TrOk x rest D Bn fin) (fun c => c.fuel) Q k .next s₂ := by
  subst hy
  exact tr_go i ti (vs ++ [.str y tk]) tb ex fuel (out ++ [some y]) F (fun p hp => N p (hs p hp)) (by simp) (by simp) hk hiv hr hi hO.snocT (by simp; omega) hT hf hex hlt
structure StS where
  t : Tok
  tb : Array Value
  ex : List (Addr × Obj)
theorem meetS {o : OsState} {h₀ : Heap} {L : Addr} {Led : StS → List (Addr × Obj)} {stored : List Str} {m₀ m' : Str → Option Value} {P : StS → Prop} {s₂ : Shared} {nw : List (Addr × Obj)} {y y0 : Str} {t : Tok} (tb : Array Value) (ex : List (Addr × Obj)) (F : Fr h₀ L s₂.heap m') (N : News h₀ L s₂.heap nw)
    (hn : ∀ p ∈ Led ⟨t, tb, ex⟩, p ∈ nw) (hk : m' (Str.ofString "stuff") = some (.str y t)) (hy : y = y0) (hr : ∀ z, z ≠ Str.ofString "stuff" → stored.contains z = false → m' z = m₀ z) (hp : P ⟨t, tb, ex⟩)
    (hB : Bare o s₂ := by first | with_reducible assumption | exact And.right (by with_reducible assumption) | assumption | exact And.right (by assumption)) :
    MeetAt o h₀ L Led (fun c : StS => [(Str.ofString "stuff", .str y0 c.t)]) stored m₀ P s₂ := by
  subst hy
  exact meet (⟨t, tb, ex⟩ : StS) F N hn (List.forall_mem_cons.mpr ⟨hk, fun _ h => nomatch h⟩) (fun z hz hc => hr z (hz _ (.head _)) hc) hp
theorem mw_P7_6 : True := by
  (k_with "call builtin:str.replace" => (k_dflt (refine' replP ?k1 ?k2 ?k3 ?k4 ?k5 ?k6 ?_; (case k1 => assumption); (case k2 => exact Nat.lt_succ_self _); (case k3 => exact Nat.lt_succ_self _); (case k4 => decide +kernel); (case k5 => (first | omega | assumption)); (case k6 => decide +kernel); k_whole); intro _ _ _))
  (k_with "execs cons" => (k_here; (fail_if_success (with_reducible refine' has_pos ?k1 ?_; (case k1 => (with_reducible assumption)))); k_dflt (refine' gen_pos ?k1 ?_; (case k1 => first | exact Nat.succ_pos _ | omega); k_whole); intro _ _))
  trivial
noncomputable def patFs (P : Params) : Array Value := match (hd.heap_39 P).lookup 158 with | some ⟨_, _, .fields fs, _⟩ => fs | _ => #[]
noncomputable def patIts (P : Params) : Array Value := match (hd.heap_39 P).lookup 157 with | some ⟨_, _, .seq its _, _⟩ => its | _ => #[]
noncomputable def patN (P : Params) : Nat := match (hd.heap_39 P).lookup 157 with | some ⟨_, _, .seq _ n, _⟩ => n | _ => 0
theorem pat_obj (P : Params) : (hd.heap_39 P).lookup 158 = some ⟨.type "re.Pattern", none, .fields (patFs P), #[]⟩ := rfl
theorem pat_tup (P : Params) : (hd.heap_39 P).lookup 157 = some ⟨.type "tuple", none, .seq (patIts P) (patN P), #[]⟩ := rfl
theorem pat_5 (P : Params) : (patFs P).getD 5 .none = .ref 157 := rfl
theorem pat_6 (P : Params) : PySem.Builtin.Re.reRawNat ((patFs P).getD 6 .none) = 0 := rfl
theorem pat_2 (P : Params) : PySem.Builtin.Re.reRawNat ((patFs P).getD 2 .none) = 1 := rfl
theorem pat_code (P : Params) : ((patIts P).map PySem.Builtin.Re.reRawOf).map (·.toNat) = subCode := by kernel_rfl
theorem code_hd {P : Params} {h : Heap} (X : (hd.heap_39 P).In h) : CodeHd h 176 172 := ⟨_, _, _, _, _, _, _, _, _, X 176 _ rfl, rfl, rfl, rfl, rfl, rfl, rfl, rfl, rfl, by decide⟩
/-- the frame's map as one of its own, some of its names said, and how it stands to the old one -/
theorem kstB_same {m : Str → Option Value} {ps : List (Str × Value)} (hk : ∀ p ∈ ps, m p.1 = some p.2) : kstB m ps = m := funext fun _ => kstB_eq hk fun _ => rfl
theorem fr_keep {h₀ h : Heap} {L : Addr} {m : Str → Option Value} (F : Fr h₀ L h m) (ps : List (Str × Value)) (hk : ∀ p ∈ ps, m p.1 = some p.2) : ∃ u, Fr h₀ L h (kstB u ps) ∧ ∀ z, kstB u ps z = m z := ⟨m, by rw [kstB_same hk]; exact F, fun z => by rw [kstB_same hk]⟩
theorem rel_whl {σ : Type} {o : OsState} {h₀ : Heap} {L : Addr} {Led : σ → List (Addr × Obj)} {ps : σ → List (Str × Value)} {stored : List Str} {m₀ u M : Str → Option Value} {P : σ → Prop} {μ : σ → Nat} {Q R : Flow → Shared → Prop} {k : Nat}
    (_h : ∀ f s₂, WhlG o h₀ L Led ps stored m₀ P μ Q k f s₂ → R f s₂) (h : ∀ z, u z = M z) {y : Str} (hM : ∀ z, z ≠ y → stored.contains z = false → M z = m₀ z) : ∀ z, z ≠ y → stored.contains z = false → u z = m₀ z := fun z a b => (h z).trans (hM z a b)
theorem rel_cut {σ : Type} {o : OsState} {h₀ : Heap} {L : Addr} {Led : σ → List (Addr × Obj)} {ps : σ → List (Str × Value)} {stored : List Str} {m₀ u M : Str → Option Value} {P : σ → Prop} {R : Flow → Shared → Prop}
    (_h : ∀ s', MeetAt o h₀ L Led ps stored m₀ P s' → R .next s') (h : ∀ z, u z = M z) {y : Str} (hM : ∀ z, z ≠ y → stored.contains z = false → M z = m₀ z) : ∀ z, z ≠ y → stored.contains z = false → u z = m₀ z := fun z a b => (h z).trans (hM z a b)
theorem all_4 {α : Type} {P : α → Prop} {a b c d : α} (ha : P a) (hb : P b) (hc : P c) (hd : P d) : ∀ p ∈ [a, b, c, d], P p := List.forall_mem_cons.mpr ⟨ha, List.forall_mem_cons.mpr ⟨hb, List.forall_mem_cons.mpr ⟨hc, List.forall_mem_cons.mpr ⟨hd, fun _ h => nomatch h⟩⟩⟩⟩
theorem all_5 {α : Type} {P : α → Prop} {a b c d e : α} (ha : P a) (hb : P b) (hc : P c) (hd : P d) (he : P e) : ∀ p ∈ [a, b, c, d, e], P p := List.forall_mem_cons.mpr ⟨ha, all_4 hb hc hd he⟩
theorem mw_P7_7 : True := by
  (k_with "getMethod ref" => ((with_reducible show wpAny _ _ (getMethod (Value.ref 158) _ _) _ _ _); (k_dflt (refine' subMethod_K ?k1 ?k2 (pat_obj _) ?_; (case k1 => k_asm); (case k2 => k_asm); k_whole))))
  (k_with "getMethod ref" => ((with_reducible show wpAny _ _ (getMethod (Value.ref _) (PySem.Str.ofString "group") _) _ _ _); (k_dflt (refine' groupMethod_K ?k1 ?k2 ?_; (case k1 => k_asm); (case k2 => assumption); k_whole))))
  (k_with "call builtin:re.Match.group" => ((k_dflt (refine' group_K ?k1 ?k2 ?k3 ?k4 ?_; (case k1 => k_asm); (case k2 => assumption); (case k3 => assumption); (case k4 => omega); k_whole)); intro _ _))
  (k_with "eval Lambda" => (refine stuck_at ?_))
  (k_with "Exists" => ((with_reducible show ∃ u h tk, Value.str _ _ = Value.str _ u ∧ _); (refine stuck_at ?_)))
  (k_with "call builtin:re.Pattern.sub" => (refine stuck_at ?_))
  (k_with "eval JoinedStr" => (k_here; k_dflt (refine' fstr_name ?k1 ?k5 ?k6 ?k7 ?k8 ?_ ?k2 ?k3 ?k4; (case k1 => k_asm); (case k2 => rfl); (case k3 => rfl); (case k4 => decide); (case k5 => rfl); (case k6 => decide +kernel); (case k7 => decide +kernel); (case k8 => first | exact le_mil (by with_reducible assumption) | (rw [strLen_append]; exact le_mil1 (by with_reducible assumption)) | (rw [strLen_append]; exact le_mil1 (Nat.le_trans (Txt.slice_le _ _ _) (by with_reducible assumption)))); k_whole); intro _ _ _))
  (k_with "exec Assign cons IfExp" => (refine stuck_at ?_))
  (k_with "call builtin:str.find" => (k_here; k_dflt (first | (refine' find4_some ?k1 ?k2 ?k3 ?k4 ?_; (case k3 => assumption); (case k1 => omega); (case k2 => omega); (case k4 => omega); k_whole) | (refine' find4_none ?k1 ?k2 ?k3 ?k4 ?_; (case k3 => assumption); (case k1 => omega); (case k2 => omega); (case k4 => omega); k_whole))))
  (k_with "call builtin:list.append" => (k_here; k_dflt (refine' app_strs ?k1 ?k2 ?k3 ?k4 ?k5 ?_; (case k1 => k_asm); (case k2 => k_asm); (case k3 => assumption); (case k4 => omega); (case k5 => k_upd); k_whole); intro _ _ _ _))
  (k_with "exec If Name cons cons" => (refine stuck_at ?_))
  (k_with "eval GeneratorExp" => (refine stuck_at ?_))
  (k_with "exec If Compare cons nil" => ((fail_if_success (have : GoOn := by assumption)); (with_reducible show wpAny _ _ (exec (Stmt.If (Expr.Compare (Expr.Subscript (Expr.Subscript _ _ _) _ _) _ _ _) _ _ _) _) _ _ _); (refine stuck_at ?_)))
  (k_with "ite" => ((with_reducible show if ((_ : Int) != _) = true then _ else _); first | (with_reducible refine ine_f (by omega) ?_) | (with_reducible refine ine_t (by omega) ?_)))
  (k_with "ite" => first | (with_reducible refine ite_tt ?_) | (with_reducible refine ite_ff ?_))
  (k_with "exec For Name Call cons nil" => ((fail_if_success (have : GoOn := by assumption)); (refine stuck_at ?_)))
  (k_with "call builtin:str.join" => (refine stuck_at ?_))
  (k_with "Mitem" => (k_here; (with_reducible show wpAny _ _ (subscriptTail _ _ (Value.ref _) (Value.int _ _)) _ _ _); k_dflt (first
  | (refine' item_vals 0 ?k1 ?k2 ?k3 ?k4 ?k5 ?_; (case k1 => k_asm); (case k2 => k_mem); (case k3 => rfl); (case k4 => decide); (case k5 => rfl); k_whole)
  | (refine' item_vals 1 ?k1 ?k2 ?k3 ?k4 ?k5 ?_; (case k1 => k_asm); (case k2 => k_mem); (case k3 => rfl); (case k4 => decide); (case k5 => rfl); k_whole)
  | (refine' item_vals 2 ?k1 ?k2 ?k3 ?k4 ?k5 ?_; (case k1 => k_asm); (case k2 => k_mem); (case k3 => rfl); (case k4 => decide); (case k5 => rfl); k_whole))))
  (k_with "subscriptTail Name Name ref int" => walk_at "Mitem")
  (k_with "subscriptTail Name BinOp ref int" => walk_at "Mitem")
  (k_with "UnrEnd" => (k_dflt (refine' unr_end ?k1 ?k2 ?k3 ?_; (case k1 => k_asm); (case k2 => k_asm); (case k3 => ((rename (_ < _ ∧ _ < _ ∧ _ < _ ∧ _ < _ ∧ AllLt _ _) => hq); exact unr_off hq)))))
  (k_with "subscriptTail" => ((with_reducible show wpAny _ _ (subscriptTail (PySem.Expr.Subscript _ _ _) _ _ _) _ _ _); k_dflt (refine kba_turn (value' := PySem.Expr.Name (PySem.Str.ofString "_") ⟨0, 0, 0, 0⟩) (fun _ => rfl) ?_)))
  trivial
theorem translate_does (w : World) (mean : ExcName → Option Value) (mg mb : Str → Option Value) (rest : List (Addr × Obj)) (tb : Array Value) (x : Str) (t u : Tok) (hx : x.length ≤ 100000) (h57 : ∀ q ∈ rest, q.1 ≠ 172)
  (fin : List (Option Str)) (htr : trF x (x.length + 1) 0 [] = some fin) (hT : TabOk posL (Str.ofString "_translate.<locals>.<lambda>") rest tb) :
  DoesG PySem.Challenge.rw_rx0110_01.row.prog w (hd.heap_39 w.params) topProg (looseW hd.view_39 [Str.ofString "_twin_re_1", Str.ofString "_special_chars_map"] ++ (recsOf hd.view_39).map (fun x => x.name) ++ (litsOf hd.view_39).map (fun x => x.1) ++ (clssOf hd.view_39 (looseW hd.view_39 [Str.ofString "_twin_re_1", Str.ofString "_special_chars_map"])).map (fun x => x.name)) mean mg mb 177 3 ((172, tabObj tb) :: rest) [Value.str x t, .none, .str "?" u]
    (fun n r => ∃ D vs tb' ex, r = .ref D ∧ n = (D, listOf vs.toArray vs.length) :: (172, tabObj tb') :: (ex ++ rest) ∧ OutAre vs fin ∧ TabOk posL (Str.ofString "_translate.<locals>.<lambda>") (ex ++ rest) tb' ∧ (∀ q ∈ ex, q.1 ≠ 172 ∧ q.1 ≠ D) ∧ D ≠ 172 ∧ ∀ q ∈ rest, q.1 ≠ D) := by
  k_fill
  unfold DoesG
  intro dp un gd cn cs a ccd cl outer A₀ base h₀ L m s oo Q E B F X N T hk hd hu hBB hret
  refine wpAny_call ?_
  (k_dflt cell_enter)
  k_steps
  · rename_i g1 L1 hh1 FG1 B1 X1 T1 tk0 hk0 D hh2 l1 hh3 tk2 hk2 Bn hh4 l2 hh5 tk3 hk3 Tp hh6 l3 hh7 hh8 hh9 F1 N1 tk4 hk4
    unfold Stuck
    refine whileG (σ := TrS) (fun c => (172, tabObj c.tb) :: (D, listOf c.vs.toArray c.vs.length) :: (Bn, bndApp D) :: (c.ex ++ rest)) (fun c => [(Str.ofString "i", .int (c.i : Int) c.ti)])
      [Str.ofString "c", Str.ofString "j", Str.ofString "stuff", Str.ofString "chunks", Str.ofString "k", Str.ofString "chunk"] (TrOk x rest D Bn fin) (fun c => c.fuel) ⟨0, _, [], tb, [], x.length + 1, []⟩ F1 (by walk_at "Mdrop")
      (List.forall_mem_cons.mpr ⟨rfl, fun _ h => nomatch h⟩) ⟨Nat.zero_le _, .nil, Nat.le_refl _, hT, htr, fun _ h => nomatch h⟩ ?_
    intro c U s1 htA hP F2 N2 R9 hR9
    obtain ⟨i, ti, vs, tb, ex, fuel, out⟩ := c
    refine Classical.byContradiction fun hng9 => ?_
    obtain ⟨hi, hO, hol, hT, hf, hex⟩ := hP
    refine hng9 ?_
    clear hng9
    rcases fuel with _ | fuel
    · cases hf
    dsimp only at hi hO hol hT hf hex F2 N2 ⊢
    have hn57 : ∀ q ∈ ex ++ rest, q.1 ≠ 172 := ne_app (fun q hq => (hex q hq).1) h57
    have hnD : ∀ q ∈ ex ++ rest, q.1 ≠ D := ne_app (fun q hq => (hex q hq).2.1) (allLt_ne l1.2)
    have hnB : ∀ q ∈ ex ++ rest, q.1 ≠ Bn := ne_app (fun q hq => (hex q hq).2.2) (allLt_ne l2.2.2)
    have hvl := hO.len
    (k_unmd)
    k_steps
    · -- a star
      have hf2 := trF_star hf (by first | with_reducible assumption | assumption) (by first | with_reducible assumption | assumption)
      unfold Stuck
      rcases out_cases hO with ⟨rfl, rfl⟩ | ⟨ws, os, rfl, rfl, hO'⟩ | ⟨ws, os, y, k, rfl, rfl, hO'⟩
      · walk_at "exec If"
        (k_unmd)
        k_steps
        refine hR9 _ _ ?_
        refine tr_go (i + 1) _ [.none] tb ex fuel [none] (by first | with_reducible assumption | assumption) (by first | with_reducible assumption | assumption) (by simp) (by simp) rfl (by omega) ?_ (by omega) (.star .nil) (by simp) hT (by simpa using hf2) hex (Nat.lt_succ_self _)
        (intro z hz hp9; simp only [List.contains_cons, List.contains_nil, Bool.or_eq_false_iff, beq_eq_false_iff_ne, ne_eq] at hp9; (dsimp only [kstB]; repeat (first | rfl | (refine (if_neg (by simp [hz, hp9])).trans ?_))))
      · have hb : ws.length ≤ 1000000 := by simp at hvl hol; omega
        walk_at "exec If"
        (k_unmd)
        k_steps
        refine hR9 _ _ ?_
        refine tr_go (i + 1) _ (ws ++ [.none]) tb ex fuel (os ++ [none]) (by first | with_reducible assumption | assumption) (by first | with_reducible assumption | assumption) (by simp) (by simp) rfl (by omega) ?_ (by omega) hO'.snocS (by simp at hol ⊢; omega) hT (by simpa using hf2) hex (Nat.lt_succ_self _)
        (intro z hz hp9; simp only [List.contains_cons, List.contains_nil, Bool.or_eq_false_iff, beq_eq_false_iff_ne, ne_eq] at hp9; (dsimp only [kstB]; repeat (first | rfl | (refine (if_neg (by simp [hz, hp9])).trans ?_))))
      · have hb : ws.length ≤ 1000000 := by simp at hvl hol; omega
        walk_at "exec If"
        (k_unmd)
        k_steps
        refine hR9 _ _ ?_
        refine tr_go (i + 1) _ (ws ++ [.str y k] ++ [.none]) tb ex fuel (os ++ [some y] ++ [none]) (by first | with_reducible assumption | assumption) (by first | with_reducible assumption | assumption) (by simp) (by simp) rfl (by omega) ?_ (by omega) (hO'.snocT.snocS) (by simp at hol ⊢; omega) hT (by simpa using hf2) hex (Nat.lt_succ_self _)
        (intro z hz hp9; simp only [List.contains_cons, List.contains_nil, Bool.or_eq_false_iff, beq_eq_false_iff_ne, ne_eq] at hp9; (dsimp only [kstB]; repeat (first | rfl | (refine (if_neg (by simp [hz, hp9])).trans ?_))))
    · have hf2 := trF_q hf (by first | with_reducible assumption | assumption) (by first | with_reducible assumption | assumption) (by first | with_reducible assumption | assumption)
      refine hR9 _ _ ?_
      refine tr_go (i + 1) _ (vs ++ [.str (Str.ofString "?") u]) tb ex fuel _ (by first | with_reducible assumption | assumption) (by first | with_reducible assumption | assumption) (by simp) (by simp) rfl (by omega) ?_ (by omega) hO.snocT (by simp; omega) hT hf2 hex (Nat.lt_succ_self _)
      (intro z hz hp9; simp only [List.contains_cons, List.contains_nil, Bool.or_eq_false_iff, beq_eq_false_iff_ne, ne_eq] at hp9; (dsimp only [kstB]; repeat (first | rfl | (refine (if_neg (by simp [hz, hp9])).trans ?_))))
    · have hf3 := trF_open hf (by first | with_reducible assumption | assumption) (by first | with_reducible assumption | assumption) (by first | with_reducible assumption | assumption) (by first | with_reducible assumption | assumption)
      unfold Stuck
      refine cut_at (σ := Nat × Tok) (by first | with_reducible assumption | assumption) (fun _ => (172, tabObj tb) :: (D, listOf vs.toArray vs.length) :: (Bn, bndApp D) :: (ex ++ rest)) (fun c => [(Str.ofString "j", .int (c.1 : Int) c.2)]) [] (fun c => c.1 = jB x (i + 1)) ?_ ?_
      · intro Rc hC9
        walk_at "exec If"
        (k_unmd)
        k_steps
        · refine hC9 _ ?_
          refine meetJ (i + 1 + 1) (by first | with_reducible assumption | assumption) (by first | with_reducible assumption | assumption) (fun _ h => h) rfl (by omega) (by intro z hz; simp [hz]) ?_
          exact (jB_yes (by first | with_reducible assumption | assumption) (by first | with_reducible assumption | assumption)).symm
        · refine hC9 _ ?_
          refine meetJ (i + 1) (by first | with_reducible assumption | assumption) (by first | with_reducible assumption | assumption) (fun _ h => h) rfl (by omega) (by intro z hz; simp [hz]) ?_
          exact (jB_no (by first | with_reducible assumption | assumption)).symm
        · refine hC9 _ ?_
          refine meetJ (i + 1) (by first | with_reducible assumption | assumption) (by first | with_reducible assumption | assumption) (fun _ h => h) rfl (by omega) (by intro z hz; simp [hz]) ?_
          exact (jB_ge (by first | with_reducible assumption | assumption)).symm
      intro c U2 s2 htB hP2 F3 N3
      obtain ⟨j, tj⟩ := c
      dsimp only at hP2 F3 N3
      have hj1 := jB_le (x := x) (i := i + 1) (by omega)
      rw [← hP2] at hj1
      (try k_unmd)
      (try k_fold)
      k_steps
      unfold Stuck
      refine cut_at (σ := Nat × Tok) (by first | with_reducible assumption | assumption) (fun _ => (172, tabObj tb) :: (D, listOf vs.toArray vs.length) :: (Bn, bndApp D) :: (ex ++ rest)) (fun c => [(Str.ofString "j", .int (c.1 : Int) c.2)]) [] (fun c => c.1 = jC x j) ?_ ?_
      · intro Rc hC9
        walk_at "exec If"
        (k_unmd)
        k_steps
        · refine hC9 _ ?_
          refine meetJ (j + 1) (by first | with_reducible assumption | assumption) (by first | with_reducible assumption | assumption) (fun _ h => h) rfl (by omega) (by intro z hz; simp [hz]) ?_
          exact (jC_yes (by first | with_reducible assumption | assumption) (by first | with_reducible assumption | assumption)).symm
        · refine hC9 _ ?_
          refine meetJ j (by first | with_reducible assumption | assumption) (by first | with_reducible assumption | assumption) (fun _ h => h) rfl (by omega) (by intro z hz; simp [hz]) ?_
          exact (jC_no (by first | with_reducible assumption | assumption)).symm
        · refine hC9 _ ?_
          refine meetJ j (by first | with_reducible assumption | assumption) (by first | with_reducible assumption | assumption) (fun _ h => h) rfl (by omega) (by intro z hz; simp [hz]) ?_
          exact (jC_ge (by first | with_reducible assumption | assumption)).symm
      intro c U3 s3 htC hP3 F4 N4
      obtain ⟨j2, tj2⟩ := c
      dsimp only at hP3 F4 N4
      have hj2 := jC_le (x := x) (i := j) (by omega)
      rw [← hP3] at hj2
      (try k_unmd)
      (try k_fold)
      k_steps
      unfold Stuck
      refine cut_at (σ := Nat × Tok) (by first | with_reducible assumption | assumption) (fun _ => (172, tabObj tb) :: (D, listOf vs.toArray vs.length) :: (Bn, bndApp D) :: (ex ++ rest)) (fun c => [(Str.ofString "j", .int (c.1 : Int) c.2)]) [] (fun c => c.1 = jFrom x (i + 1) ∧ j2 ≤ c.1 ∧ c.1 ≤ x.length) ?_ ?_
      · intro Rc hC9
        refine whileG (σ := Nat × Tok) (fun _ => (172, tabObj tb) :: (D, listOf vs.toArray vs.length) :: (Bn, bndApp D) :: (ex ++ rest)) (fun c => [(Str.ofString "j", .int (c.1 : Int) c.2)]) [] (fun c => jScan x (x.length - c.1) c.1 = jFrom x (i + 1) ∧ j2 ≤ c.1 ∧ c.1 ≤ x.length) (fun c => x.length - c.1) ⟨j2, tj2⟩ (by first | with_reducible assumption | assumption) (by first | with_reducible assumption | assumption)
          (List.forall_mem_cons.mpr ⟨rfl, fun _ h => nomatch h⟩) ⟨by rw [hP3, hP2]; rfl, Nat.le_refl _, hj2.2⟩ ?_
        intro c U4 s4 htD hP4 F5 N5 R9 hR9
        obtain ⟨j3, tj3⟩ := c
        refine Classical.byContradiction fun hng9 => ?_
        obtain ⟨hP4, hle, hj3⟩ := hP4
        refine hng9 ?_
        clear hng9
        dsimp only at hP4 hle hj3 F5 N5 ⊢
        (try k_unmd)
        (try k_fold)
        k_steps
        · refine hR9 _ _ ?_
          refine meetJ (P := fun c : Nat × Tok => (jScan x (x.length - c.1) c.1 = jFrom x (i + 1) ∧ j2 ≤ c.1 ∧ c.1 ≤ x.length) ∧ x.length - c.1 < x.length - j3) (j3 + 1) (by first | with_reducible assumption | assumption) (by first | with_reducible assumption | assumption) (fun _ h => h) rfl (by omega) (by intro z hz; (dsimp only [kstB]; repeat (first | rfl | (refine (if_neg (by simp [hz])).trans ?_)))) ?_
          exact ⟨⟨(jScan_onB (j := j3) (by first | with_reducible assumption | assumption) (by first | with_reducible assumption | assumption)).symm.trans hP4, by dsimp only; omega, by dsimp only; omega⟩, by dsimp only; omega⟩
        · refine hC9 _ ?_
          exact meetJ j3 (by first | with_reducible assumption | assumption) (by first | with_reducible assumption | assumption) (fun _ h => h) rfl rfl (by intro z hz; (dsimp only [kstB]; repeat (first | rfl | (refine (if_neg (by simp [hz])).trans ?_)))) ⟨(jScan_stopB (j := j3) (by first | with_reducible assumption | assumption)).symm.trans hP4, hle, hj3⟩
        · refine hC9 _ ?_
          exact meetJ j3 (by first | with_reducible assumption | assumption) (by first | with_reducible assumption | assumption) (fun _ h => h) rfl rfl (by intro z hz; (dsimp only [kstB]; repeat (first | rfl | (refine (if_neg (by simp [hz])).trans ?_)))) ⟨(jScan_ge (j := j3) (by first | with_reducible assumption | assumption)).symm.trans hP4, hle, hj3⟩
      intro c U5 s5 htE hP5 F6 N6
      obtain ⟨jj, tjj⟩ := c
      dsimp only at hP5 F6 N6
      refine Classical.byContradiction fun hng9 => ?_
      obtain ⟨hP5, hle5, hjj⟩ := hP5
      refine hng9 ?_
      clear hng9
      (try k_unmd)
      (try k_fold)
      k_steps
      · rw [if_neg (by omega)] at hf3
        refine hR9 _ _ ?_
        refine tr_go (i + 1) _ (vs ++ [.str (Str.ofString "\\[") _]) tb ex fuel _ (by first | with_reducible assumption | assumption) (by first | with_reducible assumption | assumption) (by simp; rfl) (by simp) rfl (by omega) ?_ (by omega) hO.snocT (by simp; omega) hT hf3 hex (Nat.lt_succ_self _)
        (intro z hz hp9; simp only [List.contains_cons, List.contains_nil, Bool.or_eq_false_iff, beq_eq_false_iff_ne, ne_eq] at hp9; (dsimp only [kstB]; repeat (first | rfl | (refine (if_neg (by simp [hz, hp9])).trans ?_))))
      unfold Stuck
      rw [if_pos (by omega), ← hP5] at hf3
      refine Classical.byContradiction fun hng9 => ?_
      obtain ⟨y0, z0, hpre, hsub, hf4⟩ := pre_of hf3
      refine hng9 ?_
      clear hng9
      rename (Fr _ _ _ _) => FA0
      refine (fr_keep FA0 [(Str.ofString "pat", _), (Str.ofString "add", _), (Str.ofString "i", _), (Str.ofString "j", _), (Str.ofString "stuff", _)] (all_5 rfl rfl rfl rfl rfl)).elim fun uA hA9 => ?_
      refine Classical.byContradiction fun hng9 => ?_
      obtain ⟨FA, hrA⟩ := hA9
      refine hng9 ?_
      clear hng9
      have hrelA := rel_whl (y := Str.ofString "i") hR9 hrA (by intro z hz hp9; simp only [List.contains_cons, List.contains_nil, Bool.or_eq_false_iff, beq_eq_false_iff_ne, ne_eq] at hp9; (dsimp only [kstB]; repeat (first | rfl | (refine (if_neg (by simp [hz, hp9])).trans ?_))))
      (clear hrA FA0); (try clear F3); (try clear F4); (try clear F6)
      (try dsimp only at FA hrelA)
      refine cut_at (σ := StS) (by first | with_reducible assumption | assumption) (fun c => (172, tabObj c.tb) :: (D, listOf vs.toArray vs.length) :: (Bn, bndApp D) :: (c.ex ++ rest)) (fun c => [(Str.ofString "stuff", .str y0 c.t)])
        [Str.ofString "i", Str.ofString "k", Str.ofString "chunks", Str.ofString "chunk"] (fun c => TabOk posL (Str.ofString "_translate.<locals>.<lambda>") (c.ex ++ rest) c.tb ∧ ∀ q ∈ c.ex, q.1 ≠ 172 ∧ q.1 ≠ D ∧ q.1 ≠ Bn) ?_ ?_
      · intro Rc hC9
        cases hdash : Txt.contains (Txt.slice x (some ((i + 1 : Nat) : Int)) (some (jj : Int))) (Str.ofString "-") with
        | false =>
          have hy0 := pre_plain hpre hdash
          have hsl : (Txt.slice x (some ((i : Int) + 1)) (some (jj : Int))).length ≤ 100000 := Nat.le_trans (Txt.slice_le _ _ _) hx
          have hdash' : Txt.contains (Txt.slice x (some ((i : Int) + 1)) (some (jj : Int))) (Str.ofString "-") = false := hdash
          have hocc : (Builtin.Str.occurrences (Txt.slice x (some ((i : Int) + 1)) (some (jj : Int))) (Str.ofString "-") 0 (Txt.slice x (some ((i : Int) + 1)) (some (jj : Int))).length 1).isEmpty = true := by simpa [Txt.contains] using hdash'
          walk_at "exec If"
          (k_unmd)
          k_steps
          refine hC9 _ ?_
          refine meetS tb ex (by first | with_reducible assumption | assumption) (by first | with_reducible assumption | assumption) (fun p hp => by first | exact hp | exact .tail _ hp | exact .tail _ (.tail _ hp)) rfl hy0.symm ?_ ⟨hT, hex⟩
          (intro z hz hp9; simp only [List.contains_cons, List.contains_nil, Bool.or_eq_false_iff, beq_eq_false_iff_ne, ne_eq] at hp9; (dsimp only [kstB]; repeat (first | rfl | (refine (if_neg (by simp [hz, hp9])).trans ?_))))
        | true =>
          have hdf := pre_dash hpre hdash
          have hdash' : Txt.contains (Txt.slice x (some ((i : Int) + 1)) (some (jj : Int))) (Str.ofString "-") = true := hdash
          have hocc : (Builtin.Str.occurrences (Txt.slice x (some ((i : Int) + 1)) (some (jj : Int))) (Str.ofString "-") 0 (Txt.slice x (some ((i : Int) + 1)) (some (jj : Int))).length 1).isEmpty = false := by simpa [Txt.contains] using hdash'
          walk_at "exec If"
          (k_unmd)
          k_steps
          rename_i C hhA lC hhB FC NC tkC hkC
          refine Classical.byContradiction fun hng9 => ?_
          obtain ⟨iF, csF, cs2, cs3, hch, hadd, hlast, hmer, hy0⟩ := dash_of hdf
          refine hng9 ?_
          clear hng9
          clear hdf hdash hdash' hocc hpre
          unfold Stuck
          refine cut_at (σ := Nat × Tok) FC (fun _ => (C, listOf #[] 0) :: (172, tabObj tb) :: (D, listOf vs.toArray vs.length) :: (Bn, bndApp D) :: (ex ++ rest)) (fun c => [(Str.ofString "k", .int (c.1 : Int) c.2)]) [] (fun c => c.1 = if isAt x (i + 1) "!" then i + 1 + 2 else i + 1 + 1) ?_ ?_
          · intro Rc hC9
            walk_at "exec Assign"
            (k_unmd)
            k_steps
            · refine hC9 _ ?_
              exact meetN (i + 1 + 2) (by first | with_reducible assumption | assumption) (by first | with_reducible assumption | assumption) (fun _ h => h) rfl (by omega) (by intro z hz; (dsimp only [kstB]; repeat (first | rfl | (refine (if_neg (by simp [hz])).trans ?_)))) (kF_yes (by first | with_reducible assumption | assumption))
            · refine hC9 _ ?_
              exact meetN (i + 1 + 1) (by first | with_reducible assumption | assumption) (by first | with_reducible assumption | assumption) (fun _ h => h) rfl (by omega) (by intro z hz; (dsimp only [kstB]; repeat (first | rfl | (refine (if_neg (by simp [hz])).trans ?_)))) (kF_no (by first | with_reducible assumption | assumption))
          intro c U7 s7 htG hP7 F12 N12
          obtain ⟨k0, tk0⟩ := c
          dsimp only at htG hP7 F12 N12
          (try k_unmd)
          (try k_fold)
          k_steps
          unfold Stuck
          rw [← hP7] at hch
          refine cut_at (σ := ChS) (by first | with_reducible assumption | assumption) (fun c => (C, listOf c.vs.toArray c.n) :: (172, tabObj tb) :: (D, listOf vs.toArray vs.length) :: (Bn, bndApp D) :: (ex ++ rest)) (fun c => [(Str.ofString "i", .int (c.i : Int) c.ti)]) [Str.ofString "k"] (fun c => StrsAre c.vs c.cs ∧ c.cs.length ≤ c.i ∧ c.i ≤ jj ∧ (∀ y ∈ c.cs, y.length ≤ 100000) ∧ c.i = iF ∧ c.cs = csF) ?_ ?_
          · intro Rc hC9
            refine whileG (σ := ChS) (fun c => (C, listOf c.vs.toArray c.n) :: (172, tabObj tb) :: (D, listOf vs.toArray vs.length) :: (Bn, bndApp D) :: (ex ++ rest)) (fun c => [(Str.ofString "i", .int (c.i : Int) c.ti), (Str.ofString "k", .int (c.k : Int) c.tk)]) [] (fun c => StrsAre c.vs c.cs ∧ c.cs.length ≤ c.i ∧ c.i ≤ jj ∧ (∀ y ∈ c.cs, y.length ≤ 100000) ∧ chunkF x jj c.fuel c.i c.k c.cs = some (iF, csF)) (fun c => c.fuel) ⟨i + 1, _, k0, tk0, [], [], 0, x.length⟩ (by first | with_reducible assumption | assumption) (by first | with_reducible assumption | assumption)
              (List.forall_mem_cons.mpr ⟨rfl, List.forall_mem_cons.mpr ⟨rfl, fun _ h => nomatch h⟩⟩) ⟨.nil, Nat.zero_le _, by dsimp only; omega, (fun _ h => nomatch h), hch⟩ ?_
            intro c U8 s8 htH hP8 F13 N13 R9 hR9
            obtain ⟨i8, ti8, k8, tk8, vs8, cs8, n8, fuel8⟩ := c
            refine Classical.byContradiction fun hng9 => ?_
            obtain ⟨hS8, hl8, hi8, hb8, hch8⟩ := hP8
            refine hng9 ?_
            clear hng9
            dsimp only at hS8 hl8 hi8 hb8 hch8 F13 N13 ⊢
            rcases fuel8 with _ | fuel8
            · cases hch8
            cases hoc : PySem.Builtin.Str.occurrences x (Str.ofString "-") k8 jj 1 with
            | nil =>
              have he := chunk_end hch8 hoc
              (try k_unmd)
              (try k_fold)
              k_steps
              refine hR9 _ _ (hC9 _ ?_)
              exact meetC2 i8 vs8 cs8 n8 (by first | with_reducible assumption | assumption) (by first | with_reducible assumption | assumption) (fun _ h => h) rfl rfl (by intro z hz1 hz2; (dsimp only [kstB]; repeat (first | rfl | (refine (if_neg (by simp [hz1, hz2])).trans ?_)))) ⟨hS8, hl8, hi8, hb8, (congrArg (·.1) he).symm, (congrArg (·.2) he).symm⟩
            | cons k9 r9 =>
              refine Classical.byContradiction fun hng9 => ?_
              obtain ⟨h91, h92, h93⟩ := chunk_step hch8 hoc
              refine hng9 ?_
              clear hng9
              (try k_unmd)
              (try k_fold)
              k_steps
              refine hR9 _ _ ?_
              refine whl_next (meetC (k9 + 1) (k9 + 3) (vs8 ++ [.str (Txt.slice x (some (i8 : Int)) (some (k9 : Int))) _]) (cs8 ++ [Txt.slice x (some (i8 : Int)) (some (k9 : Int))]) (n8 + 1) fuel8 (by first | with_reducible assumption | assumption) (by first | with_reducible assumption | assumption) (fun _ h => h) rfl (by omega) rfl (by omega) (by intro z hz1 hz2; (dsimp only [kstB]; repeat (first | rfl | (refine (if_neg (by simp [hz1, hz2])).trans ?_))))
                ⟨⟨by assumption, by simp; omega, by dsimp only; omega, ?_, h93⟩, Nat.lt_succ_self _⟩)
              intro y hy
              rcases List.mem_append.mp hy with hy | hy
              · exact hb8 y hy
              · rw [List.mem_singleton.mp hy]; exact Nat.le_trans (Txt.slice_le _ _ _) hx
          intro c U9 s9 htI hP9 F14 N14
          obtain ⟨iC, tiC, _, _, vsC, csC, nC, _⟩ := c
          refine Classical.byContradiction fun hng9 => ?_
          obtain ⟨hSC, hlC, hiC, hbC, rfl, rfl⟩ := hP9
          refine hng9 ?_
          clear hng9
          dsimp only at hSC hlC hiC hbC F14 N14 hch hadd hlast
          refine (fr_keep F14 [(Str.ofString "pat", _), (Str.ofString "i", _), (Str.ofString "j", _), (Str.ofString "chunks", _)] (all_4 rfl rfl rfl rfl)).elim fun uB hB9 => ?_
          refine Classical.byContradiction fun hng9 => ?_
          obtain ⟨FB, hrB⟩ := hB9
          refine hng9 ?_
          clear hng9
          have hrelB := rel_cut (y := Str.ofString "stuff") hC9 hrB (by intro z hz hp9; simp only [List.contains_cons, List.contains_nil, Bool.or_eq_false_iff, beq_eq_false_iff_ne, ne_eq] at hp9; (dsimp only [kstB]; repeat (first | rfl | (refine (if_neg (by simp [hz, hp9])).trans ?_))))
          (clear hrB F14); (try clear F12); (try clear FC)
          (try dsimp only at FB hrelB)
          (try k_unmd)
          (try k_fold)
          k_steps
          unfold Stuck
          have hb2 : ∀ y ∈ cs2, y.length ≤ 100001 := by
            intro y hy
            by_cases hcl : (Txt.slice x (some (iC : Int)) (some (jj : Int))).length = 0
            · obtain ⟨l9, e1, e2⟩ := hlast hcl
              subst e1 e2
              have h9 := hbC l9 (.head _)
              have h8 : (Str.ofString "-").length = 1 := rfl
              rw [List.mem_singleton.mp hy, strLen_append, h8]
              omega
            · rw [hadd hcl] at hy
              rcases List.mem_append.mp hy with hy | hy
              · have := hbC y hy; omega
              · rw [List.mem_singleton.mp hy]; exact Nat.le_succ_of_le (Nat.le_trans (Txt.slice_le _ _ _) hx)
          refine cut_at (σ := CkS) (by first | with_reducible assumption | assumption) (fun c => (C, listOf c.vs.toArray c.n) :: (172, tabObj tb) :: (D, listOf vs.toArray vs.length) :: (Bn, bndApp D) :: (ex ++ rest)) (fun _ => []) [] (fun c => StrsAre c.vs cs2) ?_ ?_
          · intro Rc hC9
            by_cases hcl : (Txt.slice x (some (iC : Int)) (some (jj : Int))).length = 0
            · obtain ⟨l9, e1, e2⟩ := hlast hcl
              subst e1 e2
              obtain ⟨t9, rfl⟩ := strs_1 hSC
              have hb9 := hbC l9 (.head _)
              have hcl' : ((Txt.slice x (some (iC : Int)) (some (jj : Int))).length : Int) = 0 := by omega
              walk_at "exec If"
              (k_unmd)
              k_steps
              refine hC9 _ ?_
              exact meetK2 [.str (l9 ++ Str.ofString "-") _] nC (by first | with_reducible assumption | assumption) (by first | with_reducible assumption | assumption) (fun _ h => h) (fun _ _ => rfl) (.cons _ _ .nil)
            · have e2 := hadd hcl
              subst e2
              have hcl' : ((Txt.slice x (some (iC : Int)) (some (jj : Int))).length : Int) ≠ 0 := by omega
              walk_at "exec If"
              (k_unmd)
              k_steps
              refine hC9 _ ?_
              exact meetK2 (vsC ++ [.str (Txt.slice x (some (iC : Int)) (some (jj : Int))) _]) (nC + 1) (by first | with_reducible assumption | assumption) (by first | with_reducible assumption | assumption) (fun _ h => h) (fun _ _ => rfl) (by first | with_reducible assumption | assumption)
          intro c U10 s10 htJ hPA F15 N15
          obtain ⟨vs10, n10⟩ := c
          dsimp only at hPA F15 N15
          have hml := merge_len hmer hb2
          (try k_unmd)
          (try k_fold)
          k_steps
          unfold Stuck
          refine cut_at (σ := CkS) (by first | with_reducible assumption | assumption) (fun c => (C, listOf c.vs.toArray c.n) :: (172, tabObj tb) :: (D, listOf vs.toArray vs.length) :: (Bn, bndApp D) :: (ex ++ rest)) (fun _ => []) [Str.ofString "k"] (fun c => StrsAre c.vs cs3) ?_ ?_
          · intro Rc hC9
            rcases merge_of hmer with ⟨a9, rfl, rfl⟩ | ⟨a9, b9, rfl, ha9, hb9, hc3⟩ | ⟨a9, b9, c9, rfl, ha9, hb9, hc9, hf1, hd9, hf2, rfl⟩
            · obtain ⟨t9, rfl⟩ := strs_1 hPA
              have h19 := hb2 a9 (.head _)
              have hgo := goOn
              k_steps
              refine hC9 _ ?_
              exact meetK2 [.str a9 t9] n10 (by first | with_reducible assumption | assumption) (by first | with_reducible assumption | assumption) (fun _ h => h) (fun _ _ => rfl) hPA
            · obtain ⟨t9, u9, rfl⟩ := strs_2 hPA
              have h19 := hb2 a9 (.head _)
              have h29 := hb2 b9 (.tail _ (.head _))
              have hgo := goOn
              k_steps
              · rw [y_fall (by first | with_reducible assumption | assumption), if_pos rfl] at hc3
                subst hc3
                refine hC9 _ ?_
                exact meetK2 _ _ (by first | with_reducible assumption | assumption) (by first | with_reducible assumption | assumption) (fun _ h => h) (by intro z hz; simp at hz; simp [hz]) (.cons _ _ .nil)
              · rw [n_fall (by first | with_reducible assumption | assumption), if_neg Bool.false_ne_true] at hc3
                subst hc3
                refine hC9 _ ?_
                exact meetK2 _ _ (by first | with_reducible assumption | assumption) (by first | with_reducible assumption | assumption) (fun _ h => h) (by intro z hz; simp at hz; simp [hz]) hPA
            · obtain ⟨t9, u9, v9, rfl⟩ := strs_3 hPA
              have h19 := hb2 a9 (.head _)
              have h29 := hb2 b9 (.tail _ (.head _))
              have h39 := hb2 c9 (.tail _ (.tail _ (.head _)))
              have hf1' := fall_y hf1
              have hf2' := fall_n hf2
              have hgo := goOn
              k_steps
              refine hC9 _ ?_
              exact meetK2 _ _ (by first | with_reducible assumption | assumption) (by first | with_reducible assumption | assumption) (fun _ h => h) (by intro z hz; simp at hz; simp [hz]) (.cons _ _ (.cons _ _ .nil))
          intro c U11 s11 htK hPB F16 N16
          obtain ⟨vs11, n11⟩ := c
          dsimp only at hPB F16 N16
          (try k_unmd)
          (try k_fold)
          k_steps
          unfold Stuck
          refine gen_KT (D := C) (vs := vs11) (xs := cs3) (f := rep2) (by first | with_reducible assumption | assumption) (by first | with_reducible assumption | assumption) T1 (code_hd X1) rfl rfl (updF_2 (Nat.ne_of_gt lC.1) ?_) hT.tri rfl rfl rfl (by decide) rfl rfl rfl ?_ (fun _ => rfl) ?_ (lst_at (by first | with_reducible assumption | assumption) (.head _)) hPB ?_ ?_
          · intro q hq
            rcases List.mem_cons.mp hq with rfl | hq
            · exact Nat.ne_of_gt l1.1
            · rcases List.mem_cons.mp hq with rfl | hq
              · exact Nat.ne_of_gt l2.2.1
              · exact hn57 q hq
          · exact Nat.lt_of_le_of_lt (Nat.le_of_eq (rfl : _ = dp + 1)) (by omega)
          · intro Q' hQ'
            walk1
            exact hQ'
          · intro C9 code9 A9 E9 y9 t9 s9' m9 hh9' hy9 h09 hn9 hm9
            have hly := hml.2 y9 hy9
            exact elt_does hly h09 hn9 hm9
          · intro a9 s9' tb9 htb htri B17 F17 N17 X17
            have hB17 := B17 oo (by first | with_reducible assumption | exact And.right (by with_reducible assumption) | assumption | exact And.right (by assumption))
            (try k_unmd)
            (try k_fold)
            k_steps
            unfold Stuck
            refine' join_gen_K ?k1 ?k2 X17 ?k4 ?k5 ?_
            (case k1 => k_asm)
            (case k2 => k_asm)
            (case k4 => exact join_ok hml)
            (case k5 => (rw [sizeLine_eq]; omega))
            intro s13 t13 B18 F18 N18
            have hB18 := B18 oo (by first | with_reducible assumption | exact And.right (by with_reducible assumption) | assumption | exact And.right (by assumption))
            (try k_unmd)
            (try k_fold)
            k_steps
            refine hC9 _ ?_
            refine meetS tb9 ex (by first | with_reducible assumption | assumption) (by first | with_reducible assumption | assumption) (fun p hp => .tail _ hp) rfl hy0.symm ?_ ⟨?_, hex⟩
            · (intro z hz hp9; have hp8 := hp9; simp only [List.contains_cons, List.contains_nil, Bool.or_eq_false_iff, beq_eq_false_iff_ne, ne_eq] at hp9; dsimp only [kstB]; (repeat (refine (if_neg (by simp [hz, hp9])).trans ?_)); exact hrelB z hz hp8)
            · rcases htb with rfl | ⟨c9, _, rfl⟩
              · exact hT
              · exact hT.other (by decide)
      intro c U6 s6 htF hP6 F7 N7
      obtain ⟨t6, tb6, ex6⟩ := c
      refine Classical.byContradiction fun hng9 => ?_
      obtain ⟨hT6, hex6⟩ := hP6
      refine hng9 ?_
      clear hng9
      dsimp only at hT6 hex6 F7 N7
      (try k_unmd)
      (try k_fold)
      k_steps
      unfold Stuck
      have hn6 : ∀ q ∈ [(D, listOf vs.toArray vs.length), (Bn, bndApp D)] ++ (ex6 ++ rest), q.1 ≠ 172 := fun q hq => by
        rcases List.mem_append.mp hq with hq | hq
        · rcases List.mem_cons.mp hq with rfl | hq
          · exact Nat.ne_of_gt l1.1
          · rw [List.mem_singleton.mp hq]; exact Nat.ne_of_gt l2.2.1
        · exact ne_app (fun q hq => (hex6 q hq).1) h57 q hq
      refine kla_eval rfl (lam_K (mid := [(D, listOf vs.toArray vs.length), (Bn, bndApp D)]) (ex := ex6) (rest := rest) (by first | with_reducible assumption | assumption) (by first | with_reducible assumption | assumption) hn6 T1 (code_hd X1) rfl hT6 rfl fun f c' oc vs9 t9 ct' h9 tk9 tb7 ex7 F8 N8 hT7 hx7 hc7 hd7 hv7 hlt7 => ?_)
      simp only [List.cons_append, List.nil_append] at N8
      (try k_unmd)
      (try k_fold)
      k_steps
      unfold Stuck
      have hex7 : ∀ q ∈ ex7, q.1 ≠ 172 ∧ q.1 ≠ D ∧ q.1 ≠ Bn := fun q hq => by
        rcases hx7 q hq with h | h
        · exact hex6 q h
        · exact ⟨Nat.ne_of_gt (h _ (.head _)), Nat.ne_of_gt (h _ (.tail _ (.head _))), Nat.ne_of_gt (h _ (.tail _ (.tail _ (.head _))))⟩
      have hn7D : ∀ q ∈ ex7 ++ rest, q.1 ≠ D := ne_app (fun q hq => (hex7 q hq).2.1) (allLt_ne l1.2)
      refine Classical.byContradiction fun hng9 => ?_
      obtain ⟨hy1, l, hgo, hls, hz0⟩ := sub_of hsub
      refine hng9 ?_
      clear hng9
      refine sub_K (fs := patFs _) (its := patIts _) (by first | with_reducible assumption | assumption) (by first | with_reducible assumption | assumption) (X1 _ _ (pat_obj _)) rfl rfl (pat_5 _) (pat_6 _) (pat_2 _) (X1 _ _ (pat_tup _)) rfl (pat_code _) (by omega) (N8.get (.head _)) rfl ?_ hgo (by omega) fun s8 t8 hB8 F10 N10' => ?_
      · intro E9 s9 nw9 am tp li b0 e0 bm em F9 N9 hsub9 hm9 ht9
        refine wpAny_call (kla_code B1 F9 X1 N9 T1 rfl rfl rfl (hsub9 _ (.head _)) (codeRec_news N9 (hsub9 _ (.tail _ (.tail _ (.tail _ (.tail _ hc7))))) hd7 hv7) (Nat.lt_of_le_of_lt (Nat.le_of_eq (rfl : _ = dp + 1)) (by omega)) rfl (locs rfl) (fun gg L9 h9 FG9 F9' N9' B9 X9 T9 => ?_) rfl rfl rfl (by decide))
        (try k_lift B9)
        (try k_fold)
        k_steps
        all_goals unfold Stuck
        · refine ⟨_, _, _, rfl, rfl, ?_, ?_⟩
          all_goals first
            | with_reducible assumption
            | assumption
            | (walk_at "Mdrop")
        · refine ⟨_, _, _, congrArg (Value.str · _) ?_, rfl, ?_, ?_⟩
          all_goals first
            | with_reducible assumption
            | assumption
            | (walk_at "Mdrop")
            | (have e9 : (⟨y0.cps.extract bm em⟩ : Str) = Str.empty := by
                have h9 : (⟨y0.cps.extract bm em⟩ : Str).length = 0 := by omega
                have h8 : y0.cps.extract bm em = #[] := Array.eq_empty_of_size_eq_zero h9
                rw [h8]; rfl
               have e8 : (⟨#[92] ++ y0.cps.extract bm em⟩ : Str) = Str.ofString "\\" ++ (⟨y0.cps.extract bm em⟩ : Str) := rfl
               rw [e8, e9]; rfl)
      have N10 := newsT N10'
      clear N10'
      have hzl : z0.length ≤ 100000 := by
        rw [hz0]
        show (PySem.Builtin.Str.glued _ l).length ≤ _
        rw [StrLaws.glued_eq_join]
        have h9 := StrLaws.join_length_le (Str.ofString "") l
        have e0 : (Str.ofString "").length = 0 := rfl
        rw [e0, Nat.mul_zero] at h9
        exact Nat.le_trans h9 (by omega)
      have hf57 : 172 < f := hlt7 _ (.head _)
      have hfD : D < f := hlt7 _ (.tail _ (.head _))
      have hfB : Bn < f := hlt7 _ (.tail _ (.tail _ (.head _)))
      rw [← hz0]
      (try k_unmd)
      (try k_fold)
      k_steps
      · refine hR9 _ _ ?_
        refine tr_goT (jj + 1) vs tb7 ex7 fuel out (by first | with_reducible assumption | assumption) (by first | with_reducible assumption | assumption) (fun p hp => by first | exact hp | exact .tail _ hp | exact .tail _ (.tail _ hp)) (endF_dot (by first | with_reducible assumption | assumption) (by first | with_reducible assumption | assumption)) rfl (by omega) ?_ (by omega) hO (by omega) hT7 hf4 hex7 (Nat.lt_succ_self _)
        (intro z hz hp9; have hp8 := hp9; simp only [List.contains_cons, List.contains_nil, Bool.or_eq_false_iff, beq_eq_false_iff_ne, ne_eq] at hp9; dsimp only [kstB]; (repeat (refine (if_neg (by simp [hz, hp9])).trans ?_)); exact hrelA z hz hp8)
      · refine hR9 _ _ ?_
        refine tr_goT (jj + 1) vs tb7 ex7 fuel out (by first | with_reducible assumption | assumption) (by first | with_reducible assumption | assumption) (fun p hp => by first | exact hp | exact .tail _ hp | exact .tail _ (.tail _ hp)) (endF_not (by first | with_reducible assumption | assumption) (by first | with_reducible assumption | assumption) (by first | with_reducible assumption | assumption)) rfl (by omega) ?_ (by omega) hO (by omega) hT7 hf4 hex7 (Nat.lt_succ_self _)
        (intro z hz hp9; have hp8 := hp9; simp only [List.contains_cons, List.contains_nil, Bool.or_eq_false_iff, beq_eq_false_iff_ne, ne_eq] at hp9; dsimp only [kstB]; (repeat (refine (if_neg (by simp [hz, hp9])).trans ?_)); exact hrelA z hz hp8)
      · refine hR9 _ _ ?_
        refine tr_goT (jj + 1) vs tb7 ex7 fuel out (by first | with_reducible assumption | assumption) (by first | with_reducible assumption | assumption) (fun p hp => by first | exact hp | exact .tail _ hp | exact .tail _ (.tail _ hp)) (endF_esc (by first | with_reducible assumption | assumption) (by first | with_reducible assumption | assumption) (by first | with_reducible assumption | assumption) (by first | with_reducible assumption | assumption)) rfl (by omega) ?_ (by omega) hO (by omega) hT7 hf4 hex7 (Nat.lt_succ_self _)
        (intro z hz hp9; have hp8 := hp9; simp only [List.contains_cons, List.contains_nil, Bool.or_eq_false_iff, beq_eq_false_iff_ne, ne_eq] at hp9; dsimp only [kstB]; (repeat (refine (if_neg (by simp [hz, hp9])).trans ?_)); exact hrelA z hz hp8)
      · refine hR9 _ _ ?_
        refine tr_goT (jj + 1) vs tb7 ex7 fuel out (by first | with_reducible assumption | assumption) (by first | with_reducible assumption | assumption) (fun p hp => by first | exact hp | exact .tail _ hp | exact .tail _ (.tail _ hp)) (endF_plain (by first | with_reducible assumption | assumption) (by first | with_reducible assumption | assumption) (by first | with_reducible assumption | assumption) (by first | with_reducible assumption | assumption)) rfl (by omega) ?_ (by omega) hO (by omega) hT7 hf4 hex7 (Nat.lt_succ_self _)
        (intro z hz hp9; have hp8 := hp9; simp only [List.contains_cons, List.contains_nil, Bool.or_eq_false_iff, beq_eq_false_iff_ne, ne_eq] at hp9; dsimp only [kstB]; (repeat (refine (if_neg (by simp [hz, hp9])).trans ?_)); exact hrelA z hz hp8)
      · refine hR9 _ _ ?_
        refine tr_goT (jj + 1) vs tb7 ex7 fuel out (by first | with_reducible assumption | assumption) (by first | with_reducible assumption | assumption) (fun p hp => by first | exact hp | exact .tail _ hp | exact .tail _ (.tail _ hp)) (endF_nil (by first | with_reducible assumption | assumption)) rfl (by omega) ?_ (by omega) hO (by omega) hT7 hf4 hex7 (Nat.lt_succ_self _)
        (intro z hz hp9; have hp8 := hp9; simp only [List.contains_cons, List.contains_nil, Bool.or_eq_false_iff, beq_eq_false_iff_ne, ne_eq] at hp9; dsimp only [kstB]; (repeat (refine (if_neg (by simp [hz, hp9])).trans ?_)); exact hrelA z hz hp8)
    · unfold Stuck
      refine Classical.byContradiction fun hng9 => ?_
      obtain ⟨hc, hf2⟩ := trF_chr hf (by first | with_reducible assumption | assumption) (by first | with_reducible assumption | assumption) (by first | with_reducible assumption | assumption) (by first | with_reducible assumption | assumption)
      refine hng9 ?_
      clear hng9
      have e1 := str_one (y := Txt.item x (i : Int)) (by first | with_reducible assumption | assumption)
      rw [e1]
      refine' Does.use ?k1 ?k2 ?k3 ?k4 ?k5 ?k6 ?k7 ?k8 (escape_does _ _ _ _ _ _ _ hc) ?_
      walk_at "Muse"
      intro n' r' h' tk' hR' F' N'
      refine Classical.byContradiction fun hng9 => ?_
      obtain ⟨hn', u', rfl⟩ := hR'
      refine hng9 ?_
      clear hng9
      subst hn'
      (try k_unmd)
      k_fold
      k_steps
      refine hR9 _ _ ?_
      refine tr_go (i + 1) _ (vs ++ [.str _ u']) tb ex fuel _ (by first | with_reducible assumption | assumption) (by first | with_reducible assumption | assumption) (by simp) (by simp) rfl (by omega) ?_ (by omega) hO.snocT (by simp; omega) hT hf2 hex (Nat.lt_succ_self _)
      (intro z hz hp9; simp only [List.contains_cons, List.contains_nil, Bool.or_eq_false_iff, beq_eq_false_iff_ne, ne_eq] at hp9; (dsimp only [kstB]; repeat (first | rfl | (refine (if_neg (by simp [hz, hp9])).trans ?_))))
    · have e1 := trF_done hf (by first | with_reducible assumption | assumption)
      subst e1
      refine hret ((D, listOf vs.toArray vs.length) :: (172, tabObj tb) :: (ex ++ rest)) _ _ ?zx1 htA.2 ?zx2 ?zx3
      · exact ⟨D, vs, tb, ex, rfl, rfl, hO, hT, fun q hq => ⟨(hex q hq).1, (hex q hq).2.1⟩, Nat.ne_of_gt l1.1, allLt_ne l1.2⟩
      · first | with_reducible assumption | assumption
      · rename (News _ _ _ _) => NZ
        exact cb_drop NZ (List.forall_mem_cons.mpr ⟨.tail _ (.head _), List.forall_mem_cons.mpr ⟨.head _, fun p hp => .tail _ (.tail _ (.tail _ hp))⟩⟩)
    all_goals (exfalso; omega)
end

section
open PySem PySem.W PyProof.Rows PySem.Calls PyProof.Rows.LCg
/-! a loop over range(n) whose state says its whole ledger -/
section
variable {prog : Program} {w : World} {A : Around} {E : Value → Shared → Prop} {s : Shared} {env : Env} {h₀ : Heap} {x : Str} {body : List Stmt} {Q : Flow → Shared → Prop}
theorem range_st {σ : Type} {r : Addr} {b₀ : Int} {t₀ u₀ v₀ : Tok} {n : Nat} {m₀ : Str → Option Value} (Led : σ → List (Addr × Obj)) (ps : σ → List (Str × Value)) (stored : List Str) (P : Nat → σ → Prop) (c₀ : σ)
    (hh : A.handled = none) (hr : IsRange s.heap r 0 b₀ 1 t₀ u₀ v₀) (hsmall : Builtin.Range.small 0 b₀ 1 = true) (hn : Builtin.Range.rangeSize 0 b₀ 1 = (n : Int)) (F : Fr h₀ env.locals s.heap m₀) (N : News h₀ env.locals s.heap (Led c₀)) (hk : ∀ p ∈ ps c₀, m₀ p.1 = some p.2) (hp : P 0 c₀)
    (turn : ∀ (c : σ) (i : Nat) t (u : Str → Option Value) h tk own, i < n → OwnOff own ((Led c).map (·.1)) → P i c →
      Fr h₀ env.locals h (fun y => if y = x then some (.int (i : Int) t) else kstB (fun z => if stored.contains z then u z else m₀ z) (ps c) y) → News h₀ env.locals h (Led c ++ own) →
      wpAny (model prog w) A (execs body env) (InvPostG h₀ env.locals (StAt Led ps stored x m₀ (P (i + 1))) own { s with heap := h, toks := tk } Q) E { s with heap := h, toks := tk })
    (done : ∀ (c : σ) (u : Str → Option Value) h tk, P n c → Fr h₀ env.locals h (fun y => if y = x then u y else kstB (fun z => if stored.contains z then u z else m₀ z) (ps c) y) → News h₀ env.locals h (Led c) → Q .next { s with heap := h, toks := tk }) :
    wpAny (model prog w) A (pyIter (.ref r)) (fun it s₂ => LoopAtV prog w A h₀ env x body Q E it s₂) E s := by
  refine wpAny_pyIter_range hr hsmall ?_
  have W : Walks prog w A s.heap.objs.size [s.heap.objs.size] [s.heap.objs.size] n (fun i v => i < n ∧ ∃ t, v = .int ((0 : Int) + i * 1) t)
      (fun i h => IsRangeIter h s.heap.objs.size ((0 : Int) + (i : Nat) * 1) ((n : Int) - (i : Nat)) 1) := (Walks.range hh _ 0 1 n).bound
  refine ⟨_, _, _, n, _, _, m₀, Led c₀, (fun i m nx => StAt Led ps stored x m₀ (P i) m nx), rfl, W, ?_, ?_, ?_, ?_, F.push _, (fun p hp => ⟨Heap.get?_push_of_some _ (N p hp).1, (N p hp).2⟩), ⟨c₀, rfl, hk, fun _ _ _ _ => rfl, hp⟩, ?_, ?_⟩
  · intro hm
    exact absurd F.ns.lt ((List.mem_singleton.mp hm) ▸ Nat.lt_irrefl _)
  · intro b hb
    rw [List.mem_singleton.mp hb]
    exact next_is_new F
  · intro p hp hI
    exact absurd (Heap.lt_size (N p hp).1) ((List.mem_singleton.mp hI) ▸ Nat.lt_irrefl _)
  · show IsRangeIter _ _ _ _ _; rw [hn]; simpa using Heap.get?_push_size _ rfl
  · rintro i v m₁ news₁ s₁ own ⟨hh', tk', rfl⟩ hin hP hJ hoff hown _ hfp hst F₁ N₁
    refine Classical.byContradiction fun hng9 => ?_
    obtain ⟨hi, t, rfl⟩ := hP
    refine hng9 ?_
    clear hng9
    have hI0 : h₀.get? s.heap.objs.size = none := next_is_new F
    obtain ⟨oI, hoI⟩ : ∃ o, hh'.get? s.heap.objs.size = some o := ⟨_, hst⟩
    have hIown : (s.heap.objs.size, oI) ∈ own := hfp _ (List.mem_singleton.mpr rfl) hI0 _ hoI
    have hsep : OwnOff own (news₁.map (·.1)) := by
      intro p hp b hb e
      refine Classical.byContradiction fun hng9 => ?_
      obtain ⟨q, hq, rfl⟩ := List.mem_map.mp hb
      refine hng9 ?_
      clear hng9
      exact hoff q hq (e ▸ hown p hp)
    have N₂ : News h₀ env.locals hh' (news₁ ++ own) := fun p hp => N₁ p ((List.mem_append.mp hp).elim (fun h => List.mem_append.mpr (.inr h)) fun h => List.mem_append.mpr (.inl h))
    refine Classical.byContradiction fun hng9 => ?_
    obtain ⟨c, rfl, h1, h2, hp'⟩ := hJ
    refine hng9 ?_
    clear hng9
    have e1 : (0 : Int) + (i : Int) * 1 = (i : Int) := by rw [Int.mul_one, Int.zero_add]
    rw [e1] at F₁
    refine wpAny_mono (turn c i t m₁ hh' tk' own hi hsep hp' (kst_fr h1 h2 F₁) N₂) (fun f s₂ p => ?_) fun _ _ e => e
    have fin : InvEndG h₀ env.locals (StAt Led ps stored x m₀ (P (i + 1))) own { s with heap := hh', toks := tk' } s₂ → LoopStepU h₀ env.locals [s.heap.objs.size] own (fun m nx => StAt Led ps stored x m₀ (P (i + 1)) m nx) { s with heap := hh', toks := tk' } .next s₂ := by
      intro hI9
      refine Classical.byContradiction fun hng9 => ?_
      obtain ⟨h', tk, m', news', nx, e, F', N', hn, ho, ha, hm⟩ := hI9
      refine hng9 ?_
      clear hng9
      refine ⟨rfl, h', tk, m', nx, e, F', fun p hp => N' p ((List.mem_append.mp hp).elim (ho p) (hn p)), fun p hp hq => ?_, hm⟩
      exact ha _ hIown p.1 (List.mem_map.mpr ⟨p, hp, rfl⟩) (List.mem_singleton.mp hq).symm
    cases f with
    | ret v => exact .ret p
    | brk => exact .brk p
    | next => exact .next (fin p)
    | cont => exact .cont (fin p)
  · intro h' tk m' news' F' N' _ hI9
    refine Classical.byContradiction fun hng9 => ?_
    obtain ⟨c, rfl, h1, h2, hp'⟩ := hI9
    refine hng9 ?_
    clear hng9
    exact done c m' h' tk hp' (kst_frOut h1 h2 F') N'
end
end

section
open PySem PySem.W PyProof.Rows PySem.Calls PyProof.Rows.LCg
/-! a loop over range(n) whose name is a cell (a block within the body closes over it) -/
section
variable {prog : Program} {w : World} {A : Around} {E : Value → Shared → Prop} {s : Shared} {h₀ : Heap} {L a c : Addr} {cn : Str} {cs : Scope} {ccd : Value} {cl : List (Str × Addr)} {x : Str} {body : List Stmt} {Q : Flow → Shared → Prop}
noncomputable def CellE (h₀ : Heap) (L c : Addr) (own : List (Addr × Obj)) (Jn : (Str → Option Value) → List (Addr × Obj) → Prop) (s₁ s₂ : Shared) : Prop :=
  ∃ h' tk m' nw nx o' v', s₂ = { s₁ with heap := h', toks := tk } ∧ Fr h₀ L h' m' ∧ News h₀ L h' nw ∧ (c, o') ∈ nw ∧ o'.data = .cell v' ∧ (∀ p ∈ nx, p ∈ nw) ∧ (∀ p ∈ own, p ∈ nw) ∧ OwnOff own (c :: nx.map (·.1)) ∧ (∀ p ∈ nx, p.1 ≠ c) ∧ Jn m' nx
noncomputable def CellP (h₀ : Heap) (L c : Addr) (own : List (Addr × Obj)) (Jn : (Str → Option Value) → List (Addr × Obj) → Prop) (s₁ : Shared) (Q : Flow → Shared → Prop) (f : Flow) (s₂ : Shared) : Prop :=
  match f with
  | .ret v => Q (.ret v) s₂
  | .brk => Q .next s₂
  | _ => CellE h₀ L c own Jn s₁ s₂
noncomputable def CellR (prog : Program) (w : World) (A : Around) (h₀ : Heap) (L c : Addr) (env : Env) (body : List Stmt) (Q : Flow → Shared → Prop) (E : Value → Shared → Prop) (xv : Value) (s₁ : Shared) : Prop :=
  ∃ (r : Addr) (b₀ : Int) (t₀ u₀ v₀ : Tok) (n : Nat) (J : Nat → (Str → Option Value) → List (Addr × Obj) → Prop) (m : Str → Option Value) (nx : List (Addr × Obj)) (o : Obj) (v : Option Value),
    xv = .ref r ∧ A.handled = none ∧ IsRange s₁.heap r 0 b₀ 1 t₀ u₀ v₀ ∧ Builtin.Range.small 0 b₀ 1 = true ∧ Builtin.Range.rangeSize 0 b₀ 1 = (n : Int) ∧ Fr h₀ L s₁.heap m ∧ News h₀ L s₁.heap ((c, o) :: nx) ∧ (∀ p ∈ nx, p.1 ≠ c) ∧ o.data = .cell v ∧ J 0 m nx ∧
    (∀ i m₁ nx₁ h tk own o₁ t, i < n → J i m₁ nx₁ → OwnOff own (c :: nx₁.map (·.1)) → (∀ p ∈ nx₁, p.1 ≠ c) → o₁.data = .cell (some (.int (i : Int) t)) → Fr h₀ L h m₁ → News h₀ L h ((c, o₁) :: (nx₁ ++ own)) →
      wpAny (model prog w) A (execs body env) (CellP h₀ L c own (J (i + 1)) { s₁ with heap := h, toks := tk } Q) E { s₁ with heap := h, toks := tk }) ∧
    (∀ m₁ nx₁ h tk o₁ v₁, J n m₁ nx₁ → (∀ p ∈ nx₁, p.1 ≠ c) → o₁.data = .cell v₁ → Fr h₀ L h m₁ → News h₀ L h ((c, o₁) :: nx₁) → Q .next { s₁ with heap := h, toks := tk })
theorem cellR_mk {env : Env} {body : List Stmt} {Q : Flow → Shared → Prop} {s₁ : Shared} {r : Addr} {b₀ : Int} {t₀ u₀ v₀ : Tok} {n : Nat} (J : Nat → (Str → Option Value) → List (Addr × Obj) → Prop) {m : Str → Option Value} {nx : List (Addr × Obj)} {o : Obj} {v : Option Value}
    (hh : A.handled = none) (hr : IsRange s₁.heap r 0 b₀ 1 t₀ u₀ v₀) (hsmall : Builtin.Range.small 0 b₀ 1 = true) (hn : Builtin.Range.rangeSize 0 b₀ 1 = (n : Int)) (F : Fr h₀ L s₁.heap m) (N : News h₀ L s₁.heap ((c, o) :: nx)) (hnc : ∀ p ∈ nx, p.1 ≠ c) (hd : o.data = .cell v) (hj : J 0 m nx)
    (turn : ∀ i m₁ nx₁ h tk own o₁ t, i < n → J i m₁ nx₁ → OwnOff own (c :: nx₁.map (·.1)) → (∀ p ∈ nx₁, p.1 ≠ c) → o₁.data = .cell (some (.int (i : Int) t)) → Fr h₀ L h m₁ → News h₀ L h ((c, o₁) :: (nx₁ ++ own)) →
      wpAny (model prog w) A (execs body env) (CellP h₀ L c own (J (i + 1)) { s₁ with heap := h, toks := tk } Q) E { s₁ with heap := h, toks := tk })
    (done : ∀ m₁ nx₁ h tk o₁ v₁, J n m₁ nx₁ → (∀ p ∈ nx₁, p.1 ≠ c) → o₁.data = .cell v₁ → Fr h₀ L h m₁ → News h₀ L h ((c, o₁) :: nx₁) → Q .next { s₁ with heap := h, toks := tk }) :
    CellR prog w A h₀ L c env body Q E (.ref r) s₁ := ⟨r, b₀, t₀, u₀, v₀, n, J, m, nx, o, v, rfl, hh, hr, hsmall, hn, F, N, hnc, hd, hj, turn, done⟩
theorem for_cell {iter : Expr} {px pos : Pos} (hk : cs.kind = .function) (hx : (envX cn cs L a ccd cl).kindOf x = some .cell) (hc : cl.lookup x = some c)
    (h : wpAny (model prog w) A (eval iter (envX cn cs L a ccd cl)) (CellR prog w A h₀ L c (envX cn cs L a ccd cl) body Q E) E s)
    (hs : ∀ x, foldedSetIterable iter (envX cn cs L a ccd cl) x = pure x := by intro _; rfl) (hE : PassesOwn (model prog w) A (envX cn cs L a ccd cl) E := by passes_own) :
    wpAny (model prog w) A (exec (.For (.Name x px) iter body [] pos) (envX cn cs L a ccd cl)) Q E s := by
  refine wpAny_For (wpAny_mono h (fun xv s₁ h₁ => ?_) fun _ _ e => e) hs
  refine Classical.byContradiction fun hng9 => ?_
  obtain ⟨r, b₀, t₀, u₀, v₀, n, J, m, nx, o, v, rfl, hh, hr, hsmall, hn, F, N, hnc, hd, hj, turn, done⟩ := h₁
  refine hng9 ?_
  clear hng9
  refine wpAny_pyIter_range hr hsmall ?_
  have W : Walks prog w A s₁.heap.objs.size [s₁.heap.objs.size] [s₁.heap.objs.size] n (fun i v => i < n ∧ ∃ t, v = .int ((0 : Int) + i * 1) t)
      (fun i h => IsRangeIter h s₁.heap.objs.size ((0 : Int) + (i : Nat) * 1) ((n : Int) - (i : Nat)) 1) := (Walks.range hh _ 0 1 n).bound
  have hI0 : h₀.get? s₁.heap.objs.size = none := next_is_new F
  have hLI : L ≠ s₁.heap.objs.size := Nat.ne_of_lt F.ns.lt
  generalize hIa : s₁.heap.objs.size = I at *
  refine codeAny_forLoop (R := fun r s' => match r with | .ok f => Q f s' | .error e => cameBackBy (model prog w) A (envX cn cs L a ccd cl) E e s')
    (fun k s' => ∃ i h' tk m' nx o v, s' = { s₁ with heap := h', toks := tk } ∧ i ≤ n ∧ k = n + 1 - i ∧ IsRangeIter h' I ((0 : Int) + (i : Nat) * 1) ((n : Int) - (i : Nat)) 1 ∧ Fr h₀ L h' m' ∧ News h₀ L h' ((c, o) :: nx) ∧ (∀ p ∈ (c, o) :: nx, p.1 ≠ I) ∧ (∀ p ∈ nx, p.1 ≠ c) ∧ o.data = .cell v ∧ J i m' nx) ?_ (n + 1)
    ⟨0, _, _, m, nx, o, v, rfl, Nat.zero_le _, rfl, ?_, F.push _, (fun p hp => ⟨Heap.get?_push_of_some _ (N p hp).1, (N p hp).2⟩), (fun p hp => ?_), hnc, hd, hj⟩
  · intro k s' hI9
    refine Classical.byContradiction fun hng9 => ?_
    obtain ⟨i, h', tk, m', nx', o', v', rfl, hi, rfl, hst, F', N', hoffI, hnc', hd', hj'⟩ := hI9
    refine hng9 ?_
    clear hng9
    by_cases hlt : i < n
    · refine W.item i _ _ _ hlt hst fun vv h₁ tk₁ hP hst₁ hk₁ => ?_
      refine Classical.byContradiction fun hng9 => ?_
      obtain ⟨_, t, rfl⟩ := hP
      refine hng9 ?_
      clear hng9
      have e1 : (0 : Int) + (i : Int) * 1 = (i : Int) := by rw [Int.mul_one, Int.zero_add]
      rw [e1]
      have F₁ : Fr h₀ L h₁ m' := fr_but F' (fun b o hb e => hk₁ b o (by simpa using hb) e) hLI hI0
      have N₁ : News h₀ L h₁ ((c, o') :: nx') := fun p hp => ⟨hk₁ _ _ (by simpa using hoffI p hp) (N' p hp).1, (N' p hp).2⟩
      have zc := N₁ _ (.head _)
      refine wpAny_assign_Name (wpAny_storeName_cell hk hx hc ⟨o', zc.1, hd'⟩ fun h₂ hv hs₂ => ?_)
      refine Classical.byContradiction fun hng9 => ?_
      obtain ⟨o₂, ho₂, hd₂⟩ := hv
      refine hng9 ?_
      clear hng9
      have F₂ : Fr h₀ L h₂ m' := F₁.change hs₂ zc.2.1 zc.2.2
      have hcI : c ≠ I := hoffI _ (.head _)
      have hst₂ : IsRangeIter h₂ I ((0 : Int) + ((i + 1 : Nat) : Int) * 1) ((n : Int) - ((i + 1 : Nat) : Int)) 1 := (hs₂.2 I (Ne.symm hcI)).trans hst₁
      obtain ⟨oI, hoI, hoE⟩ : ∃ oI, h₂.get? I = some oI ∧ (∀ h : Heap, h.get? I = some oI → IsRangeIter h I ((0 : Int) + ((i + 1 : Nat) : Int) * 1) ((n : Int) - ((i + 1 : Nat) : Int)) 1) := ⟨_, hst₂, fun _ e => e⟩
      have N₂ : News h₀ L h₂ ((c, o₂) :: (nx' ++ [(I, oI)])) := fun p hp => by
        rcases List.mem_cons.mp hp with rfl | hp
        · exact ⟨ho₂, zc.2⟩
        · rcases List.mem_append.mp hp with hp | hp
          · exact ⟨(hs₂.2 _ (hnc' p hp)).trans (N₁ p (.tail _ hp)).1, (N₁ p (.tail _ hp)).2⟩
          · rw [List.mem_singleton.mp hp]
            exact ⟨hoI, Ne.symm hLI, hI0⟩
      have hown : OwnOff [(I, oI)] (c :: nx'.map (·.1)) := fun p hp b hb => by
        rw [List.mem_singleton.mp hp]
        rcases List.mem_cons.mp hb with rfl | hb
        · exact Ne.symm hcI
        · refine Classical.byContradiction fun hng9 => ?_
          obtain ⟨q, hq, rfl⟩ := List.mem_map.mp hb
          refine hng9 ?_
          clear hng9
          exact Ne.symm (hoffI q (.tail _ hq))
      refine wpAny_mono (wpAny_passesOwn hE (turn i m' nx' h₂ tk₁ _ o₂ t hlt hj' hown hnc' hd₂ F₂ N₂)) (fun f s₃ h₃ => ?_) fun _ _ e => e
      have fin : CellE h₀ L c [(I, oI)] (J (i + 1)) { s₁ with heap := h₂, toks := tk₁ } s₃ → ∃ mm, mm < n + 1 - i ∧ ∃ i h' tk m' nx o v, s₃ = { s₁ with heap := h', toks := tk } ∧ i ≤ n ∧ mm = n + 1 - i ∧ IsRangeIter h' I ((0 : Int) + (i : Nat) * 1) ((n : Int) - (i : Nat)) 1 ∧ Fr h₀ L h' m' ∧ News h₀ L h' ((c, o) :: nx) ∧ (∀ p ∈ (c, o) :: nx, p.1 ≠ I) ∧ (∀ p ∈ nx, p.1 ≠ c) ∧ o.data = .cell v ∧ J i m' nx := by
        intro hI9
        refine Classical.byContradiction fun hng9 => ?_
        obtain ⟨h₄, tk₄, m₄, nw, nx₄, o₄, v₄, rfl, F₄, N₄, hcm, hd₄, hsub, hownm, hoff₄, hnc₄, hJ₄⟩ := hI9
        refine hng9 ?_
        clear hng9
        refine ⟨n + 1 - (i + 1), by omega, i + 1, h₄, tk₄, m₄, nx₄, o₄, v₄, rfl, hlt, rfl, hoE _ (N₄ _ (hownm _ (.head _))).1, F₄, fun p hp => ?_, fun p hp => ?_, hnc₄, hd₄, hJ₄⟩
        · rcases List.mem_cons.mp hp with rfl | hp
          · exact N₄ _ hcm
          · exact N₄ _ (hsub p hp)
        · rcases List.mem_cons.mp hp with rfl | hp
          · exact hcI
          · exact Ne.symm (hoff₄ _ (.head _) p.1 (.tail _ (List.mem_map.mpr ⟨p, hp, rfl⟩)))
      cases f with
      | ret v => exact h₃
      | brk => exact h₃
      | next => exact fin h₃
      | cont => exact fin h₃
    · obtain rfl : i = n := Nat.le_antisymm hi (Nat.not_lt.mp hlt)
      refine W.done _ _ _ hst fun h₁ tk₁ hk₁ => wpAny_execs_nil ?_
      exact done m' nx' h₁ tk₁ o' v' hj' hnc' hd' (fr_but F' (fun b o hb e => hk₁ b o (by simpa using hb) e) hLI hI0) fun p hp => ⟨hk₁ _ _ (by simpa using hoffI p hp) (N' p hp).1, (N' p hp).2⟩
  · show IsRangeIter _ _ _ _ _; rw [hn]; rw [← hIa]; simpa using Heap.get?_push_size _ rfl
  · have := Heap.lt_size (N p hp).1
    rw [hIa] at this
    exact Nat.ne_of_lt this
end
end

section
open PySem PySem.W PyProof.Rows PySem.Calls PySem.Builtin PySem.Builtin.Str
/-! texts as lists of codes -/
noncomputable def cl (x : Str) : List Nat := x.cps.toList
theorem cl_ext {x y : Str} (h : cl x = cl y) : x = y := Str.ext' (Array.toList_inj.mp h)
theorem cl_app (x y : Str) : cl (x ++ y) = cl x ++ cl y := by show (x.cps ++ y.cps).toList = _; simp [cl]
theorem cl_len (x : Str) : (cl x).length = x.length := by simp [cl, Str.length]
theorem sl_eq : Str.ofString "/" = ⟨#[47]⟩ := by decide +kernel
theorem cl_sl : cl (Str.ofString "/") = [47] := by rw [sl_eq]; rfl
theorem cl_nil : cl (Str.ofString "") = [] := by decide +kernel
theorem app_assoc (a b c : Str) : a ++ b ++ c = a ++ (b ++ c) := Str.append_assoc a b c
theorem app_nil (a : Str) : a ++ Str.ofString "" = a := cl_ext (by rw [cl_app, cl_nil, List.append_nil])
theorem nil_app (a : Str) : Str.ofString "" ++ a = a := cl_ext (by rw [cl_app, cl_nil, List.nil_append])
theorem eq_nil_of {x : Str} (h : x.length = 0) : x = Str.ofString "" := cl_ext (by rw [cl_nil]; exact List.eq_nil_of_length_eq_zero (by rw [cl_len]; exact h))
/-- joining -/
theorem join_cons2 (s a b : Str) (r : List Str) : Str.join s (a :: b :: r) = a ++ s ++ Str.join s (b :: r) := rfl
theorem join_app (s : Str) : ∀ {a b : List Str}, a ≠ [] → b ≠ [] → Str.join s (a ++ b) = Str.join s a ++ s ++ Str.join s b
  | [], _, h, _ => absurd rfl h
  | [x], [], _, h => absurd rfl h
  | [x], y :: b, _, _ => rfl
  | x :: y :: r, b, _, hb => by
    have ih := join_app s (a := y :: r) (b := b) (by simp) hb
    show x ++ s ++ Str.join s ((y :: r) ++ b) = _
    rw [ih, join_cons2]
    simp only [app_assoc]
theorem cut_unique {c : Nat} : ∀ {a a' b b' : List Nat}, c ∉ a → c ∉ a' → a ++ c :: b = a' ++ c :: b' → a = a' ∧ b = b'
  | [], [], _, _, _, _, h => ⟨rfl, by simpa using h⟩
  | [], y :: a', b, b', _, h', h => by simp at h h'; exact absurd h.1 h'.1
  | x :: a, [], b, b', h', _, h => by simp at h h'; exact absurd h.1.symm h'.1
  | x :: a, y :: a', b, b', h1, h2, h => by
    simp at h h1 h2
    obtain ⟨e1, e2⟩ := cut_unique h1.2 h2.2 h.2
    exact ⟨by rw [h.1, e1], e2⟩
theorem cl_join2 (c : Nat) (a b : Str) (r : List Str) : cl (Str.join ⟨#[c]⟩ (a :: b :: r)) = cl a ++ c :: cl (Str.join ⟨#[c]⟩ (b :: r)) := by
  rw [join_cons2, cl_app, cl_app]
  show cl a ++ [c] ++ _ = _
  simp
theorem join_inj {c : Nat} : ∀ {l l' : List Str}, l ≠ [] → l' ≠ [] → (∀ p ∈ l, c ∉ cl p) → (∀ p ∈ l', c ∉ cl p) → Str.join ⟨#[c]⟩ l = Str.join ⟨#[c]⟩ l' → l = l'
  | [], _, h, _, _, _, _ => absurd rfl h
  | _, [], _, h, _, _, _ => absurd rfl h
  | [x], [y], _, _, _, _, h => by rw [show x = y from h]
  | [x], y :: z :: r, _, _, hx, _, h => by
    have e := congrArg cl h
    rw [cl_join2] at e
    exact absurd (show c ∈ cl x by rw [show cl x = _ from e]; simp) (hx x (.head _))
  | x :: z :: r, [y], _, _, _, hy, h => by
    have e := congrArg cl h
    rw [cl_join2] at e
    exact absurd (show c ∈ cl y by rw [show cl y = _ from e.symm]; simp) (hy y (.head _))
  | x :: z :: r, y :: z' :: r', _, _, hx, hy, h => by
    have e := congrArg cl h
    rw [cl_join2, cl_join2] at e
    obtain ⟨e1, e2⟩ := cut_unique (hx x (.head _)) (hy y (.head _)) e
    have ih := join_inj (l := z :: r) (l' := z' :: r') (by simp) (by simp) (fun p hp => hx p (.tail _ hp)) (fun p hp => hy p (.tail _ hp)) (cl_ext e2)
    rw [cl_ext e1, ih]
theorem split_ne (x y : Str) : Txt.split x y ≠ [] := by
  have := split_pos x y
  intro e; rw [e] at this; simp at this
noncomputable abbrev sp (x : Str) : List Str := Txt.split x (Str.ofString "/")
theorem sp_free (x : Str) : ∀ p ∈ sp x, 47 ∉ cl p := by
  unfold sp; rw [sl_eq]; exact StrLaws.split_free x 47
theorem sp_join (x : Str) : Str.join ⟨#[47]⟩ (sp x) = x := by
  unfold sp; rw [sl_eq]; exact StrLaws.join_split x _
theorem sp_of {x : Str} {l : List Str} (hn : l ≠ []) (hf : ∀ p ∈ l, 47 ∉ cl p) (h : Str.join ⟨#[47]⟩ l = x) : sp x = l :=
  join_inj (split_ne _ _) hn (sp_free x) hf (by rw [sp_join, h])
theorem sp_app (u v : Str) : sp (u ++ (Str.ofString "/" ++ v)) = sp u ++ sp v := by
  refine sp_of (by simp [split_ne]) (fun p hp => (List.mem_append.mp hp).elim (sp_free u p) (sp_free v p)) ?_
  rw [join_app _ (split_ne _ _) (split_ne _ _), sp_join, sp_join, sl_eq, app_assoc]
theorem sp_one {x : Str} (h : 47 ∉ cl x) : sp x = [x] := sp_of (by simp) (by simpa using h) rfl
/-- the parts that are not empty -/
noncomputable def comps (x : Str) : List Str := (sp x).filter fun p => decide (p.length ≠ 0)
theorem comps_app (u v : Str) : comps (u ++ (Str.ofString "/" ++ v)) = comps u ++ comps v := by
  unfold comps; rw [sp_app, List.filter_append]
theorem comps_nil : comps (Str.ofString "") = [] := by
  unfold comps; rw [sp_one (by rw [cl_nil]; simp)]; decide +kernel
theorem comps_slash (u : Str) : comps (u ++ Str.ofString "/") = comps u := by
  have := comps_app u (Str.ofString "")
  rw [app_nil, comps_nil, List.append_nil] at this
  exact this
theorem comps_one {x : Str} (h : 47 ∉ cl x) (hn : x.length ≠ 0) : comps x = [x] := by
  unfold comps; rw [sp_one h]; simp [hn]
/-- the affixes -/
theorem starts_iff (x : Str) : Txt.startswith x (Str.ofString "/") = decide ((cl x).head? = some 47) := by
  rw [sl_eq]
  unfold Txt.startswith
  rw [StrLaws.subAt_eq]
  show (decide (0 + 1 ≤ x.length) && (((cl x).drop 0).take 1 == [47])) = _
  rw [← cl_len, List.drop_zero]
  cases cl x with
  | nil => rfl
  | cons a r => rw [Bool.eq_iff_iff]; simp
theorem ends_of {x : Str} (h : Txt.endswith x (Str.ofString "/") = true) : ∃ q, x = q ++ Str.ofString "/" := by
  rw [sl_eq] at h
  unfold Txt.endswith at h
  rw [StrLaws.subAt_eq] at h
  have h' : (decide (0 + 1 ≤ x.length) && (((cl x).drop (x.length - 1)).take 1 == [47])) = true := h
  rw [Bool.and_eq_true, decide_eq_true_eq, beq_iff_eq, ← cl_len] at h'
  obtain ⟨h1, h2⟩ := h'
  refine ⟨⟨((cl x).take ((cl x).length - 1)).toArray⟩, cl_ext ?_⟩
  rw [cl_app, cl_sl]
  show cl x = (cl x).take _ ++ [47]
  have h3 : (cl x).drop ((cl x).length - 1) = [47] := by
    rw [List.take_of_length_le (by rw [List.length_drop]; lia)] at h2
    exact h2
  rw [← h3, List.take_append_drop]
theorem ends_app {q x : Str} (hx : x.length ≠ 0) : Txt.endswith (q ++ x) (Str.ofString "/") = Txt.endswith x (Str.ofString "/") := by
  rw [sl_eq]
  unfold Txt.endswith
  rw [StrLaws.subAt_eq, StrLaws.subAt_eq]
  show (decide (0 + 1 ≤ (q ++ x).length) && (((cl (q ++ x)).drop ((q ++ x).length - 1)).take 1 == [47])) = (decide (0 + 1 ≤ x.length) && (((cl x).drop (x.length - 1)).take 1 == [47]))
  rw [strLen_append, cl_app]
  have e : q.length + x.length - 1 = (cl q).length + (x.length - 1) := by rw [cl_len]; exact Nat.add_sub_assoc (Nat.pos_of_ne_zero hx) _
  rw [e, List.drop_append]
  have h1 : decide (0 + 1 ≤ q.length + x.length) = true := by simp; lia
  have h2 : decide (0 + 1 ≤ x.length) = true := by simp; lia
  rw [h1, h2, List.drop_eq_nil_of_le (as := cl q) (by lia), List.nil_append, Nat.add_sub_cancel_left]
theorem ends_sl (q : Str) : Txt.endswith (q ++ Str.ofString "/") (Str.ofString "/") = true := by
  rw [ends_app (by decide +kernel)]; decide +kernel
/-- slices -/
theorem slice_text (x : Str) (l u : Option Int) : Txt.slice x l u = StrLaws.sliceText x l u := rfl
theorem idx_clamp (a b len : Nat) : strSliceIndices (some (a : Int)) (some (b : Int)) 1 len = strSliceIndices (some ((min a len : Nat) : Int)) (some ((min b len : Nat) : Int)) 1 len := by
  have a1 := int_nn a
  have b1 := int_nn b
  have a2 := int_nn (min a len)
  have b2 := int_nn (min b len)
  have e1 : max (0 : Int) (min (a : Int) (len : Int)) = max (0 : Int) (min ((min a len : Nat) : Int) (len : Int)) := clamp_min a len
  have e2 : max (0 : Int) (min (b : Int) (len : Int)) = max (0 : Int) (min ((min b len : Nat) : Int) (len : Int)) := clamp_min b len
  simp only [strSliceIndices, a1, b1, a2, b2, if_false, e1, e2, show ((1 : Int) > 0) = True from by simp, if_true]
theorem cl_slice (x : Str) (a b : Nat) : cl (Txt.slice x (some (a : Int)) (some (b : Int))) = ((cl x).drop a).take (b - a) := by
  have e : Txt.slice x (some (a : Int)) (some (b : Int)) = Txt.slice x (some ((min a x.length : Nat) : Int)) (some ((min b x.length : Nat) : Int)) := by
    unfold Txt.slice; rw [idx_clamp]
  rw [e]
  by_cases hab : min a x.length ≤ min b x.length
  · rw [slice_text, StrLaws.sliceText_nat x hab (Nat.min_le_right _ _)]
    show (x.cps.toList.drop _).take _ = _
    show ((cl x).drop _).take _ = _
    have hl := cl_len x
    by_cases ha : a ≤ x.length
    · rw [Nat.min_eq_left ha]
      by_cases hb : b ≤ x.length
      · rw [Nat.min_eq_left hb]
      · rw [Nat.min_eq_right (by lia), List.take_of_length_le (by rw [List.length_drop]; lia), List.take_of_length_le (by rw [List.length_drop]; lia)]
    · rw [List.drop_of_length_le (by lia), List.drop_of_length_le (by lia)]
      simp
  · have h0 : b - a = 0 := Nat.sub_eq_zero_of_le ((Nat.le_total b a).resolve_right fun h => hab (Nat.le_min.mpr ⟨Nat.le_trans (Nat.min_le_left _ _) h, Nat.min_le_right _ _⟩))
    rw [h0, List.take_zero]
    have hlt : ¬ ((min a x.length : Nat) : Int) < ((min b x.length : Nat) : Int) := fun h => hab (Nat.le_of_lt (Int.ofNat_lt.mp h))
    unfold Txt.slice
    have a2 := int_nn (min a x.length)
    have b2 := int_nn (min b x.length)
    have e1 : max (0 : Int) (min ((min a x.length : Nat) : Int) (x.length : Int)) = ((min a x.length : Nat) : Int) := clamp_id (Nat.min_le_right _ _)
    have e2 : max (0 : Int) (min ((min b x.length : Nat) : Int) (x.length : Int)) = ((min b x.length : Nat) : Int) := clamp_id (Nat.min_le_right _ _)
    have e3 : strSliceIndices (some ((min a x.length : Nat) : Int)) (some ((min b x.length : Nat) : Int)) 1 x.length = [] := by
      simp only [strSliceIndices, sliceRange, a2, b2, if_false, e1, e2, hlt, show ((1 : Int) > 0) = True from by simp, if_true]
      rfl
    rw [e3]
    split
    · rename_i h
      simp at h
      have : x.length = 0 := h.symm
      exact List.eq_nil_of_length_eq_zero (by rw [cl_len]; exact this)
    · rfl
theorem cl_slice_to (x : Str) (b : Nat) : cl (Txt.slice x none (some (b : Int))) = (cl x).take b := by
  have e : Txt.slice x none (some (b : Int)) = Txt.slice x (some ((0 : Nat) : Int)) (some (b : Int)) := by
    unfold Txt.slice; rw [StrLaws.sliceIdx_none_lo]; rfl
  rw [e, cl_slice]
  simp
theorem cl_slice_from (x : Str) (a : Nat) : cl (Txt.slice x (some (a : Int)) none) = (cl x).drop a := by
  have e : Txt.slice x (some (a : Int)) none = Txt.slice x (some (a : Int)) (some (x.length : Int)) := by
    unfold Txt.slice; rw [StrLaws.sliceIdx_none_hi]
  rw [e, cl_slice, List.take_of_length_le]
  rw [List.length_drop, cl_len]
  lia
end

section
open PySem PySem.W PyProof.Rows PySem.Calls
theorem sroot_le (x : Str) : (sroot x).2.length ≤ x.length ∧ (sroot x).1.length ≤ x.length + 1 := by
  have h1 : (Str.ofString "").length = 0 := by decide +kernel
  have h2 : (Str.ofString "/").length = 1 := by decide +kernel
  have h3 := Txt.slice_le x
  unfold sroot
  (repeat' split) <;> refine ⟨?_, ?_⟩ <;> dsimp only <;> first | exact h3 _ _ | exact Nat.le_refl _ | omega | exact Nat.le_succ_of_le (h3 _ _)
theorem sroot_sz {x : Str} (hx : x.length ≤ 100000) : (sroot x).2.length + 2 ≤ sizeLine := by
  have := sroot_le x
  rw [sizeLine_eq]; omega
theorem mw_P2_0 : True := by
  k_with_none
  trivial
theorem mw_P2_1 : True := by
  (k_with "Mdrop" => first | assumption | (refine' cb_drop ?cbN ?cbS; (case cbN => assumption); (case cbS => kcj_all)))
  (k_with "Muse" => (
        (case k1 => first | k_asm | ktn_no "use: the frames below")
        (case k2 => first | k_asm | ktn_no "use: the frame")
        (case k3 => first | k_asm | ktn_no "use: the written part")
        (case k4 => first | k_asm | ktn_no "use: the ledger")
        (case k5 => first | k_asm | ktn_no "use: the top's facts")
        (case k6 => first | exact rfl | assumption | ktn_no "use: the caller is no def")
        (case k7 => first | ktr_room | ktn_no "use: the frames' room")
        (case k8 => first | ktr_units | ktn_no "use: the C units")))
  (k_with "call ref" => (k_here; k_dflt (refine' Does.use ?k1 ?k2 ?k3 ?k4 ?k5 ?k6 ?k7 ?k8 (fspath_does _ _ _ _ _ _ _) ?_; walk_at "Muse"; k_whole); intro _ _ _ _ hR' _ _; obtain ⟨rfl, rfl⟩ := hR'; (try dsimp only); (try k_fold)))
  (k_with "call ref" => (k_here; k_dflt (refine' Does.use ?k1 ?k2 ?k3 ?k4 ?k5 ?k6 ?k7 ?k8 (splitroot_does _ _ _ _ _ _ _ (by omega)) ?_; walk_at "Muse"; k_whole); intro _ _ _ _ hR' _ _; obtain ⟨_, _, _, _, rfl, rfl, _⟩ := hR'; (try dsimp only); (try k_fold)))
  (k_with "call builtin:str.split" => (k_here; (refine KSpl.split1 (by k_asm) (by k_asm) (by decide) ?_ (by exact sroot_sz (by assumption))); intro _ _ _ _ _ _ _ _ _))
  (k_with "exec For Name Name cons nil" => (k_here; refine stuck_at ?_))
  trivial
noncomputable def npStep (root : Str) (acc : List Str) (c : Str) : List Str :=
  if c.length = 0 then acc else if (c == Str.ofString ".") = true then acc
  else if (c != Str.ofString "..") = true then acc ++ [c]
  else if root.length = 0 ∧ acc = [] then acc ++ [c]
  else if acc.getLast? = some (Str.ofString "..") then acc ++ [c]
  else acc.dropLast
theorem npStep_len (root : Str) (acc : List Str) (c : Str) : (npStep root acc c).length ≤ acc.length + 1 := by
  unfold npStep
  (repeat' split) <;> simp <;> omega
theorem np_len (root : Str) (l : List Str) : ∀ acc, (l.foldl (npStep root) acc).length ≤ acc.length + l.length := by
  induction l with
  | nil => intro acc; simp
  | cons c r ih => intro acc; rw [List.foldl_cons, List.length_cons]; have := ih (npStep root acc c); have := npStep_len root acc c; omega
section
variable {root y : Str} {acc : List Str}
theorem np1 (h : (y.length : Int) = 0) : npStep root acc y = acc := by
  have : y.length = 0 := by omega
  simp [npStep, this]
theorem np2 (h0 : (y.length : Int) ≠ 0) (h : (y == Str.ofString ".") = true) : npStep root acc y = acc := by
  have : y.length ≠ 0 := by omega
  simp only [npStep, if_neg this, if_pos h]
theorem np3 (h0 : (y.length : Int) ≠ 0) (h1 : (y == Str.ofString ".") = false) (h2 : (y != Str.ofString "..") = true) : npStep root acc y = acc ++ [y] := by
  have : y.length ≠ 0 := by omega
  simp only [npStep, if_neg this, h1, Bool.false_eq_true, if_false, if_pos h2]
theorem np4 (h0 : (y.length : Int) ≠ 0) (h1 : (y == Str.ofString ".") = false) (h2 : (y != Str.ofString "..") = false) (hr : (root.length : Int) = 0) (he : acc.isEmpty = true) : npStep root acc y = acc ++ [y] := by
  have : y.length ≠ 0 := by omega
  have hr' : root.length = 0 := by omega
  have he' : acc = [] := List.isEmpty_iff.mp he
  simp only [npStep, if_neg this, h1, h2, Bool.false_eq_true, if_false, if_pos (And.intro hr' he')]
theorem np5 (h0 : (y.length : Int) ≠ 0) (h1 : (y == Str.ofString ".") = false) (h2 : (y != Str.ofString "..") = false) (he : acc.isEmpty = false) {hne : acc ≠ []} (hl : (acc.getLast hne == Str.ofString "..") = true) : npStep root acc y = acc ++ [y] := by
  have : y.length ≠ 0 := by omega
  have hl' : acc.getLast? = some (Str.ofString "..") := by rw [List.getLast?_eq_some_getLast hne, beq_iff_eq.mp hl]
  have hn : ¬ (root.length = 0 ∧ acc = []) := fun h => hne h.2
  simp only [npStep, if_neg this, h1, h2, Bool.false_eq_true, if_false, if_neg hn, if_pos hl']
theorem np6 (h0 : (y.length : Int) ≠ 0) (h1 : (y == Str.ofString ".") = false) (h2 : (y != Str.ofString "..") = false) (he : acc.isEmpty = false) {hne : acc ≠ []} (hl : (acc.getLast hne == Str.ofString "..") = false) : npStep root acc y = acc.dropLast := by
  have : y.length ≠ 0 := by omega
  have hl' : ¬ (acc.getLast? = some (Str.ofString "..")) := by
    rw [List.getLast?_eq_some_getLast hne]
    intro h
    rw [Option.some.inj h] at hl
    simp at hl
  have hn : ¬ (root.length = 0 ∧ acc = []) := fun h => hne h.2
  simp only [npStep, if_neg this, h1, h2, Bool.false_eq_true, if_false, if_neg hn, if_neg hl']
theorem np7 (h0 : (y.length : Int) ≠ 0) (h1 : (y == Str.ofString ".") = false) (h2 : (y != Str.ofString "..") = false) (hr : (root.length : Int) ≠ 0) (he : acc.isEmpty = true) : npStep root acc y = acc := by
  have : y.length ≠ 0 := by omega
  have hr' : root.length ≠ 0 := by omega
  have he' : acc = [] := List.isEmpty_iff.mp he
  have hn : ¬ (root.length = 0 ∧ acc = []) := fun h => hr' h.1
  subst he'
  simp [npStep, this, h1, h2, hr']
theorem np_next {l : List Str} {i : Nat} {acc' : List Str} (hy : l[i]? = some y) (hP : acc = (l.take i).foldl (npStep root) []) (e : npStep root acc y = acc') : acc' = (l.take (i + 1)).foldl (npStep root) [] := by
  rw [List.take_add_one, hy, List.foldl_append, ← hP, ← e]; rfl
end
noncomputable def wt (l : List Str) : Nat := (l.map (·.length)).sum + l.length
theorem wt_app (l l' : List Str) : wt (l ++ l') = wt l + wt l' := by simp [wt]; omega
theorem wt_cons (y : Str) (l : List Str) : wt (y :: l) = y.length + 1 + wt l := by simp [wt]; omega
theorem wt_drop (l : List Str) : wt l.dropLast ≤ wt l := by
  induction l with
  | nil => exact Nat.le_refl _
  | cons a r ih =>
    cases r with
    | nil => simp [wt]
    | cons b r' => rw [List.dropLast_cons₂, wt_cons, wt_cons]; omega
theorem wt_step (root : Str) (acc : List Str) (y : Str) : wt (npStep root acc y) ≤ wt acc + (y.length + 1) := by
  have h1 := wt_drop acc
  have h2 := wt_app acc [y]
  have h3 := wt_cons y []
  have h4 : wt [] = 0 := rfl
  unfold npStep
  (repeat' split) <;> omega
theorem wt_fold (root : Str) (l : List Str) : ∀ acc, wt (l.foldl (npStep root) acc) ≤ wt acc + wt l := by
  induction l with
  | nil => intro acc; exact Nat.le_add_right _ _
  | cons y r ih =>
    intro acc
    have h1 := ih (npStep root acc y)
    have h2 := wt_step root acc y
    rw [List.foldl_cons, wt_cons]
    omega
noncomputable def npComps (x : Str) : List Str := (Txt.split (sroot x).2 (Str.ofString "/")).foldl (npStep (sroot x).1) []
noncomputable def npath (x : Str) : Str :=
  if (x.length : Int) = 0 then Str.ofString "." else
  if (((sroot x).1 ++ Txt.join (Str.ofString "/") (npComps x)).length : Int) = 0 then Str.ofString "."
  else (sroot x).1 ++ Txt.join (Str.ofString "/") (npComps x)
theorem np_weigh (x : Str) : Weighs (npComps x) x.length := by
  have h1 := wt_fold (sroot x).1 (Txt.split (sroot x).2 (Str.ofString "/")) []
  have h2 := split_weight (sroot x).2 (Str.ofString "/") (by decide +kernel)
  have h3 := (sroot_le x).1
  have h4 : wt [] = 0 := rfl
  show wt (npComps x) ≤ _
  unfold npComps
  have h5 : wt (Txt.split (sroot x).2 (Str.ofString "/")) ≤ (sroot x).2.length + 1 := h2
  omega
theorem np_ret {x y : Str} {t : Tok} (e : npath x = y) : ∃ u, Value.str y t = Value.str (npath x) u := ⟨t, by rw [e]⟩
theorem mw_P2_2 : True := by
  (k_with "call builtin:str.join" => (k_here; k_dflt (refine' join_listW ?k1 ?k2 ?k3 ?k4 ?_; (case k1 => exact News.isList (by k_asm) (by k_mem)); (case k2 => (with_reducible assumption)); (case k3 => decide +kernel); (case k4 => assumption); k_whole); intro _ _))
  trivial
theorem ne_emp {α : Type} {l : List α} (h : l.isEmpty = false) : l ≠ [] := by cases l <;> simp_all
theorem ne_tru {α : Type} {l : List α} (h : (!l.isEmpty) = true) : l ≠ [] := by cases l <;> simp_all
theorem mw_P2_3 : True := by
  (k_with "truthy ref" => (k_here; (with_reducible show wpAny _ _ (truthy (Value.ref _)) _ _ _); k_dflt (refine' tru_strs ?k1 ?k2 ?k3 ?k4 ?_; (case k1 => k_asm); (case k2 => k_mem); (case k3 => assumption); (case k4 => assumption); k_whole)))
  (k_with "subscriptTail Name UnaryOp ref int" => (k_here; (with_reducible show wpAny _ _ (subscriptTail _ _ (Value.ref _) (Value.int _ _)) _ _ _); k_dflt (refine' item_last ?k1 ?k2 ?k3 ?k4 ?k5 ?_; (case k1 => k_asm); (case k2 => k_mem); (case k3 => assumption); (case k4 => first | exact ne_tru (by assumption) | exact ne_emp (by assumption)); (case k5 => assumption); k_whole); intro _))
  (k_with "call builtin:list.append" => (k_here; k_dflt (refine' app_strs ?k1 ?k2 ?k3 ?k4 ?k5 ?_; (case k1 => k_asm); (case k2 => k_asm); (case k3 => assumption); (case k4 => assumption); (case k5 => k_upd); k_whole); intro _ _ _ _))
  (k_with "call builtin:list.pop" => (k_here; k_dflt (refine' pop_strs ?k1 ?k2 ?k3 ?k4 ?k5 ?k6 ?_; (case k1 => k_asm); (case k2 => k_asm); (case k3 => assumption); (case k4 => first | exact ne_tru (by assumption) | exact ne_emp (by assumption)); (case k5 => assumption); (case k6 => k_upd); k_whole); intro _ _ _ _ _))
  trivial
local macro_rules | `(tactic| k_all) => `(tactic| (simp only [List.forall_mem_cons]; refine ⟨?_, ?_, ?_⟩; (case refine_1 => k_ne); (case refine_2 => k_ne); (case refine_3 => exact ne_app (allLt_ne (by assumption)) (own_ne (by assumption) (.head _)))))
theorem normpath_does (w : World) (mean : ExcName → Option Value) (mg mb : Str → Option Value) (news : List (Addr × Obj)) (x : Str) (t : Tok) (hx : x.length ≤ 100000) :
  Does PySem.Challenge.rw_rx0110_01.row.prog w (hd.heap_39 w.params) topProg (looseW hd.view_39 [Str.ofString "_twin_re_1", Str.ofString "_special_chars_map"] ++ (recsOf hd.view_39).map (fun x => x.name) ++ (litsOf hd.view_39).map (fun x => x.1) ++ (clssOf hd.view_39 (looseW hd.view_39 [Str.ofString "_twin_re_1", Str.ofString "_special_chars_map"])).map (fun x => x.name)) mean mg mb 153 3 news [Value.str x t] (fun n r => news = n ∧ ∃ u, r = Value.str (npath x) u) := by
  k_fill
  unfold Does
  intro dp un gd cn cs a ccd cl outer A₀ base h₀ L m s Q E B F X N T hk hd hu hret
  refine wpAny_call ?_
  (k_dflt cell_enter)
  k_steps
  · rename_i D0 t1 t2 t3 l0 _ _ _ _ _ Dc lv _ _ eC aC lC _ Dn _ lN h1 F1 N1
    unfold Stuck
    refine For_invVF F1 rfl rfl ?_
    walk1
    refine loop_vals (σ := List Str × List Value × Nat) (fun c => [(Dn, listOf c.2.1.toArray c.2.2)]) ((Dc, listOf (strValues lv).toArray 0) :: (D0, { cls := .type "tuple", data := .seq #[.str (Str.ofString "") t1, .str (sroot x).1 t2, .str (sroot x).2 t3] }) :: news) (fun _ => []) (fun _ c => StrsAre c.2.1 c.1) []
      (fun i c => c.1 = ((Txt.split (sroot x).2 (Str.ofString "/")).take i).foldl (npStep (sroot x).1) []) (Dn :: Dc :: D0 :: news.map (·.1)) ([], [], 0) rfl (.head _) F1 N1 (fun _ h => by simpa using h) (fun _ => rfl) .nil (fun _ h => nomatch h) rfl ?_ ?_
    · intro c tl i v u h tk own hv hsep hoff hS hP F2 N2
      refine Classical.byContradiction fun hng9 => ?_
      obtain ⟨acc, ws, k⟩ := c
      refine hng9 ?_
      clear hng9
      refine Classical.byContradiction fun hng9 => ?_
      obtain ⟨y, ty, rfl, hy⟩ := StrsAre.item aC i v hv
      refine hng9 ?_
      clear hng9
      rw [eC] at hy
      dsimp only at hS hP N2
      simp only [List.cons_append, List.nil_append] at N2
      have hacc : acc.length ≤ 1000000 := by
        have h1 := np_len (sroot x).1 ((Txt.split (sroot x).2 (Str.ofString "/")).take i) []
        have h2 := split_le (sroot x).2 (Str.ofString "/")
        have h3 := sroot_le x
        rw [← hP, List.length_take, List.length_nil] at h1
        omega
      have hyl : y.length ≤ 100000 := Nat.le_trans (part_short (List.mem_of_getElem? hy)) (Nat.le_trans (sroot_le x).1 hx)
      have hrl : (sroot x).1.length ≤ 100001 := Nat.le_trans (sroot_le x).2 (Nat.succ_le_succ hx)
      refine Classical.byContradiction fun hng9 => ?_
      obtain ⟨lN1, lN2, lN3⟩ := lN
      refine hng9 ?_
      clear hng9
      k_unmd
      k_fold
      k_steps
      all_goals first
        | (refine loop_end (acc, ws, k) hsep (by assumption) (by assumption) (by exact fun _ h => h) rfl (fun _ h => nomatch h) ?_ (by exact hS) (np_next hy hP ?_))
        | (refine loop_end (acc ++ [y], ws ++ [Value.str y ty], k + 1) hsep (by assumption) (by assumption) (by exact fun _ h => h) rfl (fun _ h => nomatch h) ?_ (by assumption) (np_next hy hP ?_))
        | (refine loop_end (acc.dropLast, ws.dropLast, k + 1) hsep (by assumption) (by assumption) (by exact fun _ h => h) rfl (fun _ h => nomatch h) ?_ (by assumption) (np_next hy hP ?_))
      all_goals first
        | (intro z hz _ _; show (if z = _ then _ else _) = _; rw [if_neg hz]; rfl)
        | with_reducible exact np1 (by assumption)
        | with_reducible exact np2 (by assumption) (by assumption)
        | with_reducible exact np3 (by assumption) (by assumption) (by assumption)
        | with_reducible exact np4 (by assumption) (by assumption) (by assumption) (by assumption) (by assumption)
        | with_reducible exact np5 (by assumption) (by assumption) (by assumption) (by assumption) (by assumption)
        | with_reducible exact np6 (by assumption) (by assumption) (by assumption) (by assumption) (by assumption)
        | with_reducible exact np7 (by assumption) (by assumption) (by assumption) (by assumption) (by assumption)
        | exact np1 (by assumption)
        | exact np2 (by assumption) (by assumption)
        | exact np3 (by assumption) (by assumption) (by assumption)
        | exact np4 (by assumption) (by assumption) (by assumption) (by assumption) (by assumption)
        | exact np5 (by assumption) (by assumption) (by assumption) (by assumption) (by assumption)
        | exact np6 (by assumption) (by assumption) (by assumption) (by assumption) (by assumption)
        | exact np7 (by assumption) (by assumption) (by assumption) (by assumption) (by assumption)
    · intro c tl u h tk hoff hS hP F2 N2
      refine Classical.byContradiction fun hng9 => ?_
      obtain ⟨acc, ws, k⟩ := c
      refine hng9 ?_
      clear hng9
      dsimp only at hS hP N2
      simp only [List.cons_append, List.nil_append] at N2
      have hlen : (strValues lv).length = (Txt.split (sroot x).2 (Str.ofString "/")).length := by rw [aC.len_eq, eC]
      rw [hlen, List.take_length] at hP
      have hP' : acc = npComps x := hP
      have hW := np_weigh x
      rw [← hP'] at hW
      have hW1 : (acc.map (·.length)).sum + acc.length ≤ 1048576 := by have : _ ≤ x.length + 1 := hW; omega
      have hJ : (Txt.join (Str.ofString "/") acc).length ≤ 4 * (x.length + 1) := len_join_le hW (by decide +kernel)
      have hrl : (sroot x).1.length ≤ 100001 := Nat.le_trans (sroot_le x).2 (Nat.succ_le_succ hx)
      k_unmd
      k_steps
      all_goals (refine hret news _ _ _ ⟨rfl, np_ret ?_⟩ (by assumption) (by walk_at "Mdrop"); rw [npath, if_neg (by assumption), ← hP']; first | rw [if_neg (by assumption)] | rw [if_pos (by assumption)])
  · exact hret news _ _ _ ⟨rfl, np_ret (by rw [npath, if_pos (by assumption)])⟩ (by assumption) (by walk_at "Mdrop")
end

section
open PySem PySem.W PyProof.Rows PySem.Calls
theorem mw_P3_0 : True := by
  k_with_none
  trivial
theorem mw_P3_1 : True := by
  (k_with "Mdrop" => first | assumption | (refine' cb_drop ?cbN ?cbS; (case cbN => assumption); (case cbS => kcj_all)))
  (k_with "Muse" => (
        (case k1 => first | k_asm | ktn_no "use: the frames below")
        (case k2 => first | k_asm | ktn_no "use: the frame")
        (case k3 => first | k_asm | ktn_no "use: the written part")
        (case k4 => first | k_asm | ktn_no "use: the ledger")
        (case k5 => first | k_asm | ktn_no "use: the top's facts")
        (case k6 => first | exact rfl | assumption | ktn_no "use: the caller is no def")
        (case k7 => first | ktr_room | ktn_no "use: the frames' room")
        (case k8 => first | ktr_units | ktn_no "use: the C units")))
  (k_with "call ref" => (k_here; k_dflt (refine' Does.use ?k1 ?k2 ?k3 ?k4 ?k5 ?k6 ?k7 ?k8 (fspath_does _ _ _ _ _ _ _) ?_; walk_at "Muse"; k_whole); intro _ _ _ _ hR' _ _; obtain ⟨rfl, rfl⟩ := hR'; (try dsimp only); (try k_fold)))
  (k_with "call ref" => (k_here; k_dflt (refine' Does.use ?k1 ?k2 ?k3 ?k4 ?k5 ?k6 ?k7 ?k8 (get_sep_does _ _ _ _ _ _ _) ?_; walk_at "Muse"; k_whole); intro _ _ _ _ hR' _ _; obtain ⟨rfl, _, rfl⟩ := hR'; (try dsimp only); (try k_fold)))
  trivial
theorem mw_P3_2 : True := by
  (k_with "exec For Name Name cons nil" => (k_here; refine stuck_at ?_))
  trivial
noncomputable def pjStep (path b : Str) : Str :=
  if Txt.startswith b (Str.ofString "/") = true then b else if (path.length : Int) = 0 then b
  else if Txt.endswith path (Str.ofString "/") = true then path ++ b else path ++ (Str.ofString "/" ++ b)
theorem pjStep_len (path b : Str) : (pjStep path b).length ≤ path.length + (b.length + 1) := by
  have h2 : (Str.ofString "/").length = 1 := by decide +kernel
  unfold pjStep
  (repeat' split) <;> (try simp only [Str.length_append]) <;> (try rw [h2]) <;> omega
theorem pj_len (l : List Str) : ∀ x : Str, (l.foldl pjStep x).length ≤ x.length + ((l.map (·.length)).sum + l.length) := by
  induction l with
  | nil => intro x; simp
  | cons b r ih =>
    intro x
    have h1 := ih (pjStep x b)
    have h2 := pjStep_len x b
    simp only [List.foldl_cons, List.map_cons, List.sum_cons, List.length_cons]
    omega
theorem sum_take_le (l : List Str) (i : Nat) : ((l.take i).map (·.length)).sum + (l.take i).length ≤ (l.map (·.length)).sum + l.length := by
  have h1 : l.map (·.length) = (l.take i).map (·.length) ++ (l.drop i).map (·.length) := by rw [← List.map_append, List.take_append_drop]
  rw [h1, List.sum_append, List.length_take]
  omega
theorem mem_sum_le {l : List Str} {y : Str} (h : y ∈ l) : y.length ≤ (l.map (·.length)).sum := by
  induction l with
  | nil => cases h
  | cons a r ih =>
    rw [List.map_cons, List.sum_cons]
    rcases List.mem_cons.mp h with rfl | h
    · omega
    · have := ih h; omega
theorem pj_next {l : List Str} {i : Nat} {y x path p' : Str} (hy : l[i]? = some y) (hP : path = (l.take i).foldl pjStep x) (e : pjStep path y = p') : p' = (l.take (i + 1)).foldl pjStep x := by
  rw [List.take_add_one, hy, List.foldl_append, ← hP, ← e]; rfl
theorem pj1 {path b : Str} (h : Txt.startswith b (Str.ofString "/") = true) : pjStep path b = b := by simp only [pjStep, if_pos h]
theorem pj2 {path b : Str} (h : Txt.startswith b (Str.ofString "/") = false) (h2 : (path.length : Int) = 0) : pjStep path b = b := by simp only [pjStep, h, Bool.false_eq_true, if_false, if_pos h2]
theorem pj3 {path b : Str} (h : Txt.startswith b (Str.ofString "/") = false) (h2 : (path.length : Int) ≠ 0) (h3 : Txt.endswith path (Str.ofString "/") = true) : pjStep path b = path ++ b := by simp only [pjStep, h, Bool.false_eq_true, if_false, if_neg h2, if_pos h3]
theorem pj4 {path b : Str} (h : Txt.startswith b (Str.ofString "/") = false) (h2 : (path.length : Int) ≠ 0) (h3 : Txt.endswith path (Str.ofString "/") = false) : pjStep path b = path ++ (Str.ofString "/" ++ b) := by simp only [pjStep, h, h3, Bool.false_eq_true, if_false, if_neg h2]
theorem join_does (w : World) (mean : ExcName → Option Value) (mg mb : Str → Option Value) (news : List (Addr × Obj)) (x : Str) (t : Tok) (ws : List Value) (ps : List Str) (hS : StrsAre ws ps) (hx : x.length + (ps.map (·.length)).sum + ps.length ≤ 100000) :
  Does PySem.Challenge.rw_rx0110_01.row.prog w (hd.heap_39 w.params) topProg (looseW hd.view_39 [Str.ofString "_twin_re_1", Str.ofString "_special_chars_map"] ++ (recsOf hd.view_39).map (fun x => x.name) ++ (litsOf hd.view_39).map (fun x => x.1) ++ (clssOf hd.view_39 (looseW hd.view_39 [Str.ofString "_twin_re_1", Str.ofString "_special_chars_map"])).map (fun x => x.name)) mean mg mb 132 3 news (Value.str x t :: ws) (fun n r => news = n ∧ ∃ u, r = .str (ps.foldl pjStep x) u) := by
  k_fill
  unfold Does
  intro dp un gd cn cs a ccd cl outer A₀ base h₀ L m s Q E B F X N T hk hd hu hret
  refine wpAny_call ?_
  k_dflt (refine' kp_rest (vs := ws) ?k1 ?k2 ?k3 ?k4 ?k5 ?kA ?kF ?kK ?k6 ?k7 ?k8 ?kV ?kP ?kG ?kB ?_ ?c2 ?c3 ?c4 ?c5; (case kA => exact rfl); (case kF => exact rfl); (case kK => assumption); (case k1 => k_asm); (case k2 => k_asm); (case k3 => k_asm); (case k4 => k_asm); (case k5 => k_asm); (case k6 => k_is); (case k7 => k_is); (case k8 => ktr_room); (case kV => exact rfl); (case kP => exact bind_star rfl rfl (by have := hS.len_eq; rw [sizeLine_eq]; omega) rfl rfl); (case kG => exact fun _ => rfl); (case kB => exact fun _ => locs rfl); (case c5 => decide); (case c2 => exact rfl); (case c3 => exact rfl); (case c4 => exact rfl); k_whole)
  intro D' g' L' h' l1 FG' F' N' B' X' T'
  (try dsimp only)
  (try k_fold)
  k_steps
  rename Fr _ _ _ _ => F1
  rename News _ _ _ (_ :: news) => N1
  unfold Stuck
  refine For_invVF F1 rfl rfl ?_
  walk1
  refine loop_tup (σ := Str × Tok) (fun _ => []) ((D', { cls := .type "tuple", data := .seq ws.toArray 0 }) :: news) (fun c => [(Str.ofString "path", .str c.1 c.2)]) (fun _ _ => True) []
      (fun i c => c.1 = (ps.take i).foldl pjStep x) (D' :: news.map (·.1)) (x, t) rfl (.head _) F1 N1 (fun _ h => by simpa using h) (fun _ => rfl) trivial (by simp only [List.forall_mem_cons]; exact ⟨rfl, fun _ h => nomatch h⟩) rfl ?_ ?_
  · intro c tl i v u h tk own hv hsep hoff _ hP F2 N2
    obtain ⟨path, tp⟩ := c
    refine Classical.byContradiction fun hng9 => ?_
    obtain ⟨y, ty, rfl, hy⟩ := StrsAre.item hS i v hv
    refine hng9 ?_
    clear hng9
    dsimp only at hP N2
    simp only [List.cons_append, List.nil_append] at N2
    have hyl : y.length ≤ 100000 := by have := mem_sum_le (List.mem_of_getElem? hy); omega
    have hpl : path.length ≤ 100000 := by have h1 := pj_len (ps.take i) x; have h2 := sum_take_le ps i; rw [← hP] at h1; omega
    have hsl : (Str.ofString "/").length = 1 := by decide +kernel
    k_unmd
    k_fold
    k_steps
    all_goals (
      refine' loop_end (_, _) hsep (by assumption) (by assumption) (fun _ h => h) rfl ?_ ?_ trivial (pj_next hy hP ?_)
      rotate_left 2
      (refine List.forall_mem_cons.mpr ⟨?_, fun _ h => nomatch h⟩; (dsimp only); with_unfolding_all rfl)
      (intro z hz hp9 _; have hz2 := hp9 _ (.head _); dsimp only at hz2; focus ((try dsimp only [kstB]); repeat (first | rfl | (refine (if_neg (by simp [hz, hz2])).trans ?_))))
      first
      | exact pj1 (by assumption)
      | exact pj2 (by assumption) (by assumption)
      | exact pj3 (by assumption) (by assumption) (by assumption)
      | exact pj4 (by assumption) (by assumption) (by assumption))
  · intro c tl u h tk hoff _ hP F2 N2
    obtain ⟨path, tp⟩ := c
    have hlen : ws.length = ps.length := hS.len_eq
    rw [hlen, List.take_length] at hP
    dsimp only at hP N2
    simp only [List.cons_append, List.nil_append] at N2
    k_unmd
    k_steps
    all_goals exact hret news _ _ _ ⟨rfl, _, by rw [← hP]⟩ (by assumption) (by walk_at "Mdrop")
end

section
open PySem PySem.W PyProof.Rows PySem.Calls
theorem mw_P4_0 : True := by
  k_with_none
  trivial
theorem mw_P4_1 : True := by
  (k_with "Mdrop" => first | assumption | (refine' cb_drop ?cbN ?cbS; (case cbN => assumption); (case cbS => kcj_all)))
  (k_with "Muse" => (
        (case k1 => first | k_asm | ktn_no "use: the frames below")
        (case k2 => first | k_asm | ktn_no "use: the frame")
        (case k3 => first | k_asm | ktn_no "use: the written part")
        (case k4 => first | k_asm | ktn_no "use: the ledger")
        (case k5 => first | k_asm | ktn_no "use: the top's facts")
        (case k6 => first | exact rfl | assumption | ktn_no "use: the caller is no def")
        (case k7 => first | ktr_room | ktn_no "use: the frames' room")
        (case k8 => first | ktr_units | ktn_no "use: the C units")))
  (k_with "call ref" => (k_here; k_dflt (refine' Does.use ?k1 ?k2 ?k3 ?k4 ?k5 ?k6 ?k7 ?k8 (fspath_does _ _ _ _ _ _ _) ?_; walk_at "Muse"; k_whole); intro _ _ _ _ hR' _ _; obtain ⟨rfl, rfl⟩ := hR'; (try dsimp only); (try k_fold)))
  (k_with "call ref" => (k_here; k_dflt (refine' Does.use ?k1 ?k2 ?k3 ?k4 ?k5 ?k6 ?k7 ?k8 (get_sep_does _ _ _ _ _ _ _) ?_; walk_at "Muse"; k_whole); intro _ _ _ _ hR' _ _; obtain ⟨rfl, _, rfl⟩ := hR'; (try dsimp only); (try k_fold)))
  trivial

noncomputable def hd0 (x : Str) : Str := Txt.slice x none (some (Txt.rfind x (Str.ofString "/") + 1))
noncomputable def splitP (x : Str) : Str × Str :=
  (if ((hd0 x).length : Int) = 0 then hd0 x
   else if (hd0 x != Txt.mul (Str.ofString "/") ((hd0 x).length : Int)) = true then Txt.rstripChars (hd0 x) (Str.ofString "/") else hd0 x,
   Txt.slice x (some (Txt.rfind x (Str.ofString "/") + 1)) none)
theorem split_does (w : World) (mean : ExcName → Option Value) (mg mb : Str → Option Value) (news : List (Addr × Obj)) (x : Str) (t : Tok) (hx : x.length ≤ 100000) :
  Does PySem.Challenge.rw_rx0110_01.row.prog w (hd.heap_39 w.params) topProg (looseW hd.view_39 [Str.ofString "_twin_re_1", Str.ofString "_special_chars_map"] ++ (recsOf hd.view_39).map (fun x => x.name) ++ (litsOf hd.view_39).map (fun x => x.1) ++ (clssOf hd.view_39 (looseW hd.view_39 [Str.ofString "_twin_re_1", Str.ofString "_special_chars_map"])).map (fun x => x.name)) mean mg mb 139 3 news [Value.str x t] (PrO news (splitP x).1 (splitP x).2) := by
  k_fill
  unfold Does
  intro dp un gd cn cs a ccd cl outer A₀ base h₀ L m s Q E B F X N T hk hd hu hret
  refine wpAny_call ?_
  (k_dflt cell_enter)
  k_steps
  all_goals (refine hret _ _ _ _ (pr_mk (p := splitP x) ?_ ?_) (by assumption) (by walk_at "Mdrop"); clear hret)
  all_goals first
    | exact And.right (by assumption)
    | (rw [splitP]; unfold hd0; first | rw [if_neg (by assumption), if_pos (by assumption)] | rw [if_neg (by assumption), if_neg (ne_true_of_eq_false (by assumption))] | rw [if_pos (by assumption)])
end

section
open PySem PySem.W PyProof.Rows PySem.Calls
theorem mw_P5_0 : True := by
  k_with_none
  trivial
theorem mw_P5_1 : True := by
  (k_with "Mdrop" => first | assumption | (refine' cb_drop ?cbN ?cbS; (case cbN => assumption); (case cbS => kcj_all)))
  (k_with "Muse" => (
        (case k1 => first | k_asm | ktn_no "use: the frames below")
        (case k2 => first | k_asm | ktn_no "use: the frame")
        (case k3 => first | k_asm | ktn_no "use: the written part")
        (case k4 => first | k_asm | ktn_no "use: the ledger")
        (case k5 => first | k_asm | ktn_no "use: the top's facts")
        (case k6 => first | exact rfl | assumption | ktn_no "use: the caller is no def")
        (case k7 => first | ktr_room | ktn_no "use: the frames' room")
        (case k8 => first | ktr_units | ktn_no "use: the C units")))
  trivial
theorem mw_P5_2 : True := by
  (k_with "call ref" => (k_here; k_dflt (refine' Does.use ?k1 ?k2 ?k3 ?k4 ?k5 ?k6 ?k7 ?k8 (split_does _ _ _ _ _ _ _ (by assumption)) ?_; walk_at "Muse"; k_whole); intro _ _ _ _ hR' _ _; obtain ⟨_, _, _, rfl, rfl, _⟩ := hR'; (try dsimp only); (try k_fold)))
  (k_with "exec While Compare cons nil" => (k_here; refine stuck_at ?_))
  (k_with "binaryOp Add ref ref" => (k_here; (with_reducible show wpAny _ _ (binaryOp _ (Value.ref _) (Value.ref _)) _ _ _); k_dflt (refine' add_vals ?k1 ?k2 ?k3 ?k4 ?k5 ?_; (case k1 => k_asm); (case k2 => k_asm); (case k3 => k_mem); (case k4 => k_mem); (case k5 => (simp only [List.length_cons, List.length_nil]; omega)); k_whole); intro _ _ _ _ l1; (try k_lt l1); (try (revert l1; intro _))))
  trivial
inductive TailsOf : Str → List Str → Prop
  | stop {p : Str} : (Txt.stripChars p (Str.ofString "/") != Str.ofString "") = false → TailsOf p [p]
  | step {p : Str} {l : List Str} : (Txt.stripChars p (Str.ofString "/") != Str.ofString "") = true → (splitP p).1.length ≤ p.length → (splitP p).2.length ≤ p.length → TailsOf (splitP p).1 l → TailsOf p (l ++ [(splitP p).2])
structure TlSt where
  path : Str
  tp : Tok
  D : Addr
  acc : List Str
  ws : List Value
  k : Nat
  lf : List Str
theorem tails_does (w : World) (mean : ExcName → Option Value) (mg mb : Str → Option Value) (news : List (Addr × Obj)) (x : Str) (t : Tok) (l : List Str) (hl : TailsOf x l) (hn : l.length ≤ 1000) (hx : x.length ≤ 100000) :
  Does PySem.Challenge.rw_rx0110_01.row.prog w (hd.heap_39 w.params) topProg (looseW hd.view_39 [Str.ofString "_twin_re_1", Str.ofString "_special_chars_map"] ++ (recsOf hd.view_39).map (fun x => x.name) ++ (litsOf hd.view_39).map (fun x => x.1) ++ (clssOf hd.view_39 (looseW hd.view_39 [Str.ofString "_twin_re_1", Str.ofString "_special_chars_map"])).map (fun x => x.name)) mean mg mb 213 4 news [Value.str x t] (LiO news l) := by
  k_fill
  unfold Does
  intro dp un gd cn cs a ccd cl outer A₀ base h₀ L m s Q E B F X N T hk hd hu hret
  refine wpAny_call ?_
  (k_dflt cell_enter)
  k_steps
  · rename_i Dt _ lt h1 F1 N1
    unfold Stuck
    refine ksw_while (σ := TlSt) (fun c => (c.D, listOf c.ws.toArray c.k) :: news) (fun c => [(Str.ofString "path", .str c.path c.tp), (Str.ofString "tails", .ref c.D)]) (fun c => StrsAre c.ws c.acc ∧ AllLt c.D news) [Str.ofString "tail"]
      (fun c => TailsOf c.path c.lf ∧ c.lf ++ c.acc = l ∧ c.path.length ≤ 100000) (fun c => c.lf.length) ⟨x, t, Dt, [], [], 0, l⟩ F1 N1 ⟨.nil, allLt_of lt⟩ (by k_dflt (exact List.forall_mem_cons.mpr ⟨rfl, List.forall_mem_cons.mpr ⟨rfl, fun _ h => nomatch h⟩⟩)) ⟨hl, by simp, hx⟩ ?_
    intro c u h tk hF hP F2 N2
    refine Classical.byContradiction fun hng9 => ?_
    obtain ⟨path, tp, D, acc, ws, k, lf⟩ := c
    refine hng9 ?_
    clear hng9
    dsimp only at hF hP N2
    obtain ⟨hS, hlt⟩ := hF
    refine Classical.byContradiction fun hng9 => ?_
    obtain ⟨hT, hcat, hpl⟩ := hP
    refine hng9 ?_
    clear hng9
    have hacc : acc.length ≤ 1000 := by have := congrArg List.length hcat; rw [List.length_append] at this; omega
    have hws : ws.length ≤ 1000 := by rw [hS.len_eq]; exact hacc
    k_unmd
    k_fold
    k_steps
    · cases hT with
      | stop h9 => exfalso; rename ((Txt.stripChars _ _ != _) = true) => h8; rw [h9] at h8; exact Bool.false_ne_true h8
      | step h1 h2 h3 hT' =>
        refine' ksw_end (TlSt.mk (splitP path).1 _ _ ((splitP path).2 :: acc) (Value.str (splitP path).2 _ :: ws) 0 _) (by assumption) (by assumption) ?_ ⟨.cons _ _ hS, ?_⟩ ?_ ?_ ⟨hT', ?_, ?_⟩ ?_
        rotate_left 5
        (refine List.forall_mem_cons.mpr ⟨?_, List.forall_mem_cons.mpr ⟨?_, fun _ h => nomatch h⟩⟩ <;> (dsimp only; with_unfolding_all rfl))
        · intro z h2 h3
          have e1 := h2 _ (.head _)
          have e2 := h2 _ (.tail _ (.head _))
          dsimp only at e1 e2
          have e3 : z ≠ Str.ofString "tail" := by intro e; subst e; simp at h3
          ((try dsimp only [kstB]); repeat (first | rfl | (refine (if_neg (by simp [e1, e2, e3])).trans ?_)))
        · rw [← hcat]; simp
        · exact Nat.le_trans h2 hpl
        · simp
        · intro p hp
          rcases List.mem_cons.mp hp with rfl | hp
          · exact .head _
          · exact .tail _ (.tail _ (.tail _ (.tail _ hp)))
        · dsimp only
          rename (_ < _ ∧ _ < _ ∧ _ < _ ∧ AllLt _ _) => hq
          exact hq.2.2.2
    · cases hT with
      | step h9 => exfalso; rename ((Txt.stripChars _ _ != _) = false) => h8; rw [h9] at h8; exact Bool.false_ne_true h8.symm
      | stop h9 =>
        rename (_ < _ ∧ _ < _ ∧ AllLt _ _) => hq
        refine hret _ _ _ _ ⟨_, _, _, rfl, rfl, ?_, hq.2.2⟩ (by assumption) (by walk_at "Mdrop")
        rw [← hcat]
        exact .cons _ _ hS
end

section
open PySem PySem.W PyProof.Rows PySem.Calls PySem.Builtin PySem.Builtin.Str
theorem len_app (x y : Str) : (x ++ y).length = x.length + y.length := strLen_append x y
/-! join and the parts -/
noncomputable abbrev noSl (x : Str) : Prop := Txt.startswith x (Str.ofString "/") = false
theorem comps_pj {p b : Str} (hb : noSl b) : comps (pjStep p b) = comps p ++ comps b := by
  unfold pjStep
  rw [if_neg (by rw [hb]; exact Bool.false_ne_true)]
  split
  · rename_i h0
    rw [eq_nil_of (by lia : p.length = 0), comps_nil, List.nil_append]
  · split
    · rename_i h1
      obtain ⟨q, rfl⟩ := ends_of h1
      rw [app_assoc, comps_app, comps_slash]
    · exact comps_app p b
theorem comps_fold : ∀ {l : List Str} {p : Str}, (∀ b ∈ l, noSl b) → comps (l.foldl pjStep p) = comps p ++ l.flatMap comps
  | [], p, _ => by simp
  | b :: l, p, h => by
    rw [List.foldl_cons, comps_fold (fun x hx => h x (.tail _ hx)), comps_pj (h b (.head _)), List.flatMap_cons, List.append_assoc]
/-- a root ahead -/
theorem pj_root {q p b : Str} (hq : Txt.endswith q (Str.ofString "/") = true) (hb : noSl b) (hql : q.length ≠ 0) : pjStep (q ++ p) b = q ++ pjStep p b := by
  unfold pjStep
  have hb' : Txt.startswith b (Str.ofString "/") = false := hb
  simp only [hb', Bool.false_eq_true, if_false]
  have hl : ¬ ((q ++ p).length : Int) = 0 := by rw [len_app]; lia
  rw [if_neg hl]
  by_cases h0 : p.length = 0
  · have e := eq_nil_of h0
    subst e
    rw [app_nil, if_pos hq, if_pos (by decide +kernel : ((Str.ofString "").length : Int) = 0)]
  · rw [ends_app h0, if_neg (by lia : ¬ ((p.length : Int) = 0))]
    split
    · exact app_assoc _ _ _
    · exact app_assoc _ _ _
theorem fold_root {q : Str} (hq : Txt.endswith q (Str.ofString "/") = true) (hql : q.length ≠ 0) : ∀ {l : List Str} {p : Str}, (∀ b ∈ l, noSl b) → l.foldl pjStep (q ++ p) = q ++ l.foldl pjStep p
  | [], _, _ => rfl
  | b :: l, p, h => by
    rw [List.foldl_cons, List.foldl_cons, pj_root hq (h b (.head _)) hql, fold_root hq hql (fun x hx => h x (.tail _ hx))]
theorem starts_app {p b : Str} (hp : p.length ≠ 0) : Txt.startswith (p ++ b) (Str.ofString "/") = Txt.startswith p (Str.ofString "/") := by
  rw [starts_iff, starts_iff, cl_app]
  have := cl_len p
  cases h : cl p with
  | nil => rw [h] at this; exact absurd this.symm hp
  | cons a r => rfl
theorem noSl_nil : noSl (Str.ofString "") := by show Txt.startswith _ _ = false; decide +kernel
theorem pj_noSl {p b : Str} (hp : noSl p) (hb : noSl b) : noSl (pjStep p b) := by
  unfold pjStep
  rw [if_neg (by rw [hb]; exact Bool.false_ne_true)]
  split
  · exact hb
  · rename_i h0
    have h0' : p.length ≠ 0 := by lia
    split
    · show Txt.startswith _ _ = false; rw [starts_app h0']; exact hp
    · show Txt.startswith _ _ = false; rw [starts_app h0']; exact hp
theorem fold_noSl : ∀ {l : List Str} {p : Str}, noSl p → (∀ b ∈ l, noSl b) → noSl (l.foldl pjStep p)
  | [], _, hp, _ => hp
  | b :: l, p, hp, h => fold_noSl (l := l) (pj_noSl hp (h b (.head _))) fun x hx => h x (.tail _ hx)
/-! the root -/
theorem bne_false_of {a b : Str} (h : a = b) : (a != b) = false := by rw [h]; exact bne_self_eq_false b
theorem ne_of_cl {a b : Str} (h : cl a ≠ cl b) : (a != b) = true := bne_iff_ne.mpr fun e => h (by rw [e])
theorem noSl_cl {x : Str} (h : noSl x) : (cl x).head? ≠ some 47 := by
  rw [noSl, starts_iff] at h
  exact of_decide_eq_false h
theorem sl1 (x : Str) : cl (Txt.slice x none (some 1)) = (cl x).take 1 := cl_slice_to x 1
theorem sl12 (x : Str) : cl (Txt.slice x (some 1) (some 2)) = ((cl x).drop 1).take 1 := cl_slice x 1 2
theorem sl23 (x : Str) : cl (Txt.slice x (some 2) (some 3)) = ((cl x).drop 2).take 1 := cl_slice x 2 3
theorem sl1f (x : Str) : cl (Txt.slice x (some 1) none) = (cl x).drop 1 := cl_slice_from x 1
theorem sl2f (x : Str) : cl (Txt.slice x (some 2) none) = (cl x).drop 2 := cl_slice_from x 2
theorem sl2t (x : Str) : cl (Txt.slice x none (some 2)) = (cl x).take 2 := cl_slice_to x 2
theorem take1_ne {l : List Nat} (h : l.head? ≠ some 47) : l.take 1 ≠ [47] := by cases l <;> simp_all
theorem sroot0 {x : Str} (h : noSl x) : sroot x = (Str.ofString "", x) := by
  unfold sroot
  rw [if_pos (ne_of_cl (by rw [sl1, cl_sl]; exact take1_ne (noSl_cl h)))]
theorem cl_s2 : cl (Str.ofString "//") = [47, 47] := by decide +kernel
theorem cl_s3 : cl (Str.ofString "///") = [47, 47, 47] := by decide +kernel
theorem sroot1 {x : Str} (h : noSl x) : sroot (Str.ofString "/" ++ x) = (Str.ofString "/", x) := by
  unfold sroot
  rw [if_neg (by rw [bne_false_of (cl_ext (by rw [sl1, cl_app, cl_sl]; rfl))]; exact Bool.false_ne_true)]
  rw [if_pos (ne_of_cl (by rw [sl12, cl_app, cl_sl]; exact take1_ne (noSl_cl h)))]
  have e : Txt.slice (Str.ofString "/" ++ x) (some 1) none = x := cl_ext (by rw [sl1f, cl_app, cl_sl]; rfl)
  rw [e]
theorem sroot2 {x : Str} (h : noSl x) : sroot (Str.ofString "//" ++ x) = (Str.ofString "//", x) := by
  unfold sroot
  rw [if_neg (by rw [bne_false_of (cl_ext (by rw [sl1, cl_app, cl_s2, cl_sl]; rfl))]; exact Bool.false_ne_true)]
  rw [if_neg (by rw [bne_false_of (cl_ext (by rw [sl12, cl_app, cl_s2, cl_sl]; rfl))]; exact Bool.false_ne_true)]
  have e0 : (Txt.slice (Str.ofString "//" ++ x) (some 2) (some 3) == Str.ofString "/") = false := by
    rw [beq_eq_false_iff_ne]
    intro e
    have := congrArg cl e
    rw [sl23, cl_app, cl_s2, cl_sl] at this
    exact take1_ne (noSl_cl h) this
  rw [if_neg (by rw [e0]; exact Bool.false_ne_true)]
  have e1 : Txt.slice (Str.ofString "//" ++ x) none (some 2) = Str.ofString "//" := cl_ext (by rw [sl2t, cl_app, cl_s2]; rfl)
  have e2 : Txt.slice (Str.ofString "//" ++ x) (some 2) none = x := cl_ext (by rw [sl2f, cl_app, cl_s2]; rfl)
  rw [e1, e2]
theorem sroot3 {x : Str} : sroot (Str.ofString "///" ++ x) = (Str.ofString "/", Str.ofString "//" ++ x) := by
  unfold sroot
  rw [if_neg (by rw [bne_false_of (cl_ext (by rw [sl1, cl_app, cl_s3, cl_sl]; rfl))]; exact Bool.false_ne_true)]
  rw [if_neg (by rw [bne_false_of (cl_ext (by rw [sl12, cl_app, cl_s3, cl_sl]; rfl))]; exact Bool.false_ne_true)]
  have e0 : (Txt.slice (Str.ofString "///" ++ x) (some 2) (some 3) == Str.ofString "/") = true := by
    rw [beq_iff_eq]
    exact cl_ext (by rw [sl23, cl_app, cl_s3, cl_sl]; rfl)
  rw [if_pos e0]
  have e2 : Txt.slice (Str.ofString "///" ++ x) (some 1) none = Str.ofString "//" ++ x := cl_ext (by rw [sl1f, cl_app, cl_app, cl_s3, cl_s2]; rfl)
  rw [e2]
/-! the steps -/
theorem fold_filter {root : Str} : ∀ (l : List Str) (acc : List Str), l.foldl (npStep root) acc = (l.filter fun p => decide (p.length ≠ 0)).foldl (npStep root) acc
  | [], _ => rfl
  | x :: l, acc => by
    rw [List.foldl_cons, List.filter_cons]
    by_cases h : x.length = 0
    · rw [if_neg (by simpa using h), fold_filter l, show npStep root acc x = acc by unfold npStep; rw [if_pos h]]
    · rw [if_pos (by simpa using h), List.foldl_cons, fold_filter l]
theorem fold_sp {root : Str} (x : Str) (acc : List Str) : (sp x).foldl (npStep root) acc = (comps x).foldl (npStep root) acc := fold_filter _ _
/-- a name -/
noncomputable def nm (c : Str) : Prop := c.length ≠ 0 ∧ c ≠ Str.ofString "." ∧ c ≠ Str.ofString ".."
theorem np_name {root : Str} {acc : List Str} {c : Str} (h : nm c) : npStep root acc c = acc ++ [c] := by
  unfold npStep
  rw [if_neg h.1, if_neg (by rw [beq_iff_eq]; exact h.2.1), if_pos (bne_iff_ne.mpr h.2.2)]
theorem np_dot {root : Str} {acc : List Str} : npStep root acc (Str.ofString ".") = acc := by
  unfold npStep
  rw [if_neg (by decide +kernel), if_pos (by decide +kernel)]
theorem np_pop {root : Str} {acc : List Str} {c : Str} (h : nm c) : npStep root (acc ++ [c]) (Str.ofString "..") = acc := by
  unfold npStep
  rw [if_neg (by decide +kernel), if_neg (by decide +kernel), if_neg (by decide +kernel), if_neg (by simp), if_neg (by simp; exact h.2.2), List.dropLast_concat]
theorem nm_of {c : Str} (h : (decide (c.length ≠ 0) && !(c == Str.ofString ".") && !(c == Str.ofString "..")) = true) : nm c := by
  simp only [Bool.and_eq_true, decide_eq_true_eq, Bool.not_eq_true', beq_eq_false_iff_ne] at h
  exact ⟨h.1.1, h.1.2, h.2⟩
noncomputable def detourTab : List Str := [Str.ofString "*/..", Str.ofString "[.]/../.", Str.ofString "", Str.ofString "[/..", Str.ofString "a/b]/../..", Str.ofString ".", Str.ofString "[!/a/..//.."]
theorem comps_join {l : List Str} (hn : l ≠ []) (h : ∀ p ∈ l, 47 ∉ cl p) {x : Str} (e : Str.join ⟨#[47]⟩ l = x) : comps x = l.filter fun p => decide (p.length ≠ 0) := by
  unfold comps; rw [sp_of hn h e]
theorem detour_back {root : Str} : ∀ d ∈ detourTab, ∀ acc, (comps d).foldl (npStep root) acc = acc := by
  have f : ∀ (l : List Str), (l.all fun p => !((cl p).contains 47)) = true → ∀ p ∈ l, 47 ∉ cl p := fun l h p hp => by
    have := List.all_eq_true.mp h p hp
    simpa using this
  have c (s : String) (l : List String) (h : (decide (l ≠ []) && (l.map Str.ofString).all (fun p => !((cl p).contains 47)) && decide (Str.join ⟨#[47]⟩ (l.map Str.ofString) = Str.ofString s)) = true) : comps (Str.ofString s) = (l.map Str.ofString).filter fun p => decide (p.length ≠ 0) := by
    simp only [Bool.and_eq_true, decide_eq_true_eq] at h
    exact comps_join (by simpa using h.1.1) (f _ h.1.2) h.2
  intro d hd acc
  simp only [detourTab, List.mem_cons, List.not_mem_nil, or_false] at hd
  rcases hd with rfl | rfl | rfl | rfl | rfl | rfl | rfl
  · rw [c _ ["*", ".."] (by decide +kernel)]
    show npStep root (npStep root acc (Str.ofString "*")) (Str.ofString "..") = acc
    rw [np_name (c := Str.ofString "*") (nm_of (by decide +kernel)), np_pop (nm_of (by decide +kernel))]
  · rw [c _ ["[.]", "..", "."] (by decide +kernel)]
    show npStep root (npStep root (npStep root acc (Str.ofString "[.]")) (Str.ofString "..")) (Str.ofString ".") = acc
    rw [np_name (c := Str.ofString "[.]") (nm_of (by decide +kernel)), np_pop (nm_of (by decide +kernel)), np_dot]
  · rw [comps_nil]; rfl
  · rw [c _ ["[", ".."] (by decide +kernel)]
    show npStep root (npStep root acc (Str.ofString "[")) (Str.ofString "..") = acc
    rw [np_name (c := Str.ofString "[") (nm_of (by decide +kernel)), np_pop (nm_of (by decide +kernel))]
  · rw [c _ ["a", "b]", "..", ".."] (by decide +kernel)]
    show npStep root (npStep root (npStep root (npStep root acc (Str.ofString "a")) (Str.ofString "b]")) (Str.ofString "..")) (Str.ofString "..") = acc
    rw [np_name (c := Str.ofString "a") (nm_of (by decide +kernel)), np_name (c := Str.ofString "b]") (nm_of (by decide +kernel)), np_pop (c := Str.ofString "b]") (nm_of (by decide +kernel)), np_pop (nm_of (by decide +kernel))]
  · rw [c _ ["."] (by decide +kernel)]
    show npStep root acc (Str.ofString ".") = acc
    rw [np_dot]
  · rw [c _ ["[!", "a", "..", "", ".."] (by decide +kernel)]
    show npStep root (npStep root (npStep root (npStep root acc (Str.ofString "[!")) (Str.ofString "a")) (Str.ofString "..")) (Str.ofString "..") = acc
    rw [np_name (c := Str.ofString "[!") (nm_of (by decide +kernel)), np_name (c := Str.ofString "a") (nm_of (by decide +kernel)), np_pop (c := Str.ofString "a") (nm_of (by decide +kernel)), np_pop (nm_of (by decide +kernel))]
end

section
open PySem PySem.W PyProof.Rows PySem.Calls PySem.Builtin PySem.Builtin.Str
theorem tjoin (s : Str) (l : List Str) : Txt.join s l = Str.join s l := StrLaws.glued_eq_join s l
theorem tjoin_sl (l : List Str) : Txt.join (Str.ofString "/") l = Str.join ⟨#[47]⟩ l := by rw [tjoin, sl_eq]
/-- a part that the straightening takes for a name -/
noncomputable def part (c : Str) : Prop := nm c ∧ 47 ∉ cl c
theorem part_noSl {c : Str} (h : part c) : noSl c := by
  rw [noSl, starts_iff]
  refine decide_eq_false ?_
  intro e
  exact h.2 (List.mem_of_mem_head? e)
noncomputable def partsR (l : List (Str × Str)) (d : Str) : List Str := l.flatMap (fun p => [p.1, p.2]) ++ [d]
theorem parts_fold {root : Str} {d : Str} (hd : d ∈ detourTab) : ∀ {l : List (Str × Str)} {acc : List Str}, (∀ p ∈ l, p.1 ∈ detourTab ∧ part p.2) → ((partsR l d).flatMap comps).foldl (npStep root) acc = acc ++ l.map (·.2)
  | [], acc, _ => by
    show ((comps d) ++ []).foldl (npStep root) acc = _
    rw [List.append_nil, detour_back d hd]; simp
  | p :: l, acc, h => by
    have hp := h p (.head _)
    show ((comps p.1) ++ ((comps p.2) ++ (partsR l d).flatMap comps)).foldl (npStep root) acc = _
    rw [List.foldl_append, List.foldl_append, detour_back _ hp.1, comps_one hp.2.2 hp.2.1.1]
    show List.foldl (npStep root) (npStep root acc p.2) ((partsR l d).flatMap comps) = _
    rw [np_name hp.2.1, parts_fold hd fun q hq => h q (.tail _ hq)]
    simp
theorem join_ne {s : Str} : ∀ {l : List Str}, l ≠ [] → (∀ p ∈ l, p.length ≠ 0) → (Str.join s l).length ≠ 0
  | [], h, _ => absurd rfl h
  | [x], _, h => h x (.head _)
  | x :: y :: r, _, h => by
    rw [join_cons2, app_assoc, len_app]
    have := h x (.head _)
    lia
/-! the tails -/
theorem at_iff (x : Str) (i : Nat) : StrLaws.At x ⟨#[47]⟩ x.length i ↔ (cl x)[i]? = some 47 := StrLaws.subAt_one x 47 i
theorem rfind_at {q c : Str} (hc : 47 ∉ cl c) : Txt.rfind (q ++ (Str.ofString "/" ++ c)) (Str.ofString "/") = (q.length : Int) := by
  rw [sl_eq]
  have hx : cl (q ++ (⟨#[47]⟩ ++ c)) = cl q ++ 47 :: cl c := by rw [cl_app, cl_app]; rfl
  have hq : (cl (q ++ (⟨#[47]⟩ ++ c)))[q.length]? = some 47 := by
    rw [hx, ← cl_len, List.getElem?_append_right (Nat.le_refl _)]
    simp
  unfold Txt.rfind
  rcases StrLaws.last_spec (q ++ (⟨#[47]⟩ ++ c)) ⟨#[47]⟩ with ⟨_, h⟩ | ⟨i, e, h1, h2⟩
  · exact absurd ((at_iff _ _).mpr hq) (h q.length)
  · rw [e]
    have h1' := (at_iff _ _).mp h1
    have : i = q.length := by
      rcases Nat.lt_trichotomy i q.length with hlt | heq | hgt
      · exact absurd ((at_iff _ _).mpr hq) (h2 _ hlt)
      · exact heq
      · exfalso
        rw [hx, List.getElem?_append_right (by rw [cl_len]; lia), cl_len] at h1'
        obtain ⟨k, hk⟩ : ∃ k, i - q.length = k + 1 := ⟨i - q.length - 1, by lia⟩
        rw [hk, List.getElem?_cons_succ] at h1'
        exact hc (List.mem_of_getElem? h1')
    rw [this]
theorem rfind_none {c : Str} (hc : 47 ∉ cl c) : Txt.rfind c (Str.ofString "/") = -1 := by
  rw [sl_eq]
  unfold Txt.rfind
  rcases StrLaws.last_spec c ⟨#[47]⟩ with ⟨e, _⟩ | ⟨i, e, h1, _⟩
  · rw [e]
  · exact absurd (List.mem_of_getElem? ((at_iff _ _).mp h1)) hc
theorem goes_iff (c : Nat) : (Str.ofString "/").cps.contains c = true ↔ c = 47 := by
  rw [sl_eq]
  simp
theorem getD_cl (x : Str) (k : Nat) : x.cps.getD k 0 = (cl x).getD k 0 := (getD_list x k).symm
theorem mul_cl (n : Nat) : cl (Txt.mul (Str.ofString "/") (n : Int)) = List.replicate n 47 := by
  rw [sl_eq]
  have := mul_one_list 47 (n : Int)
  rw [Int.toNat_natCast] at this
  exact this
theorem strip_mid {x : Str} {i : Nat} (hi : i < x.length) (h : (cl x).getD i 0 ≠ 47) : (Txt.stripChars x (Str.ofString "/") != Str.ofString "") = true := by
  refine bne_iff_ne.mpr fun e => ?_
  have e' := congrArg Str.length e
  unfold Txt.stripChars at e'
  rw [PyProof.Rows.stripBy_eq, StrLaws.sub_len _ _ _ ?_] at e'
  · have lo := lo_facts (Str.ofString "/").cps.contains x
    have hi' := hi_facts (Str.ofString "/").cps.contains x (stripLo (Str.ofString "/").cps.contains true x) lo.1
    have h1 : stripLo (Str.ofString "/").cps.contains true x ≤ i := by
      apply Nat.le_of_not_lt
      intro hlt
      have := lo.2.1 i hlt
      rw [goes_iff, getD_cl] at this
      exact h this
    have h2 : i < stripHi (Str.ofString "/").cps.contains true x (stripLo (Str.ofString "/").cps.contains true x) := by
      apply Nat.lt_of_not_le
      intro hle
      have := hi'.2.2.1 i hle hi
      rw [goes_iff, getD_cl] at this
      exact h this
    have h3 : (Str.ofString "").length = 0 := rfl
    lia
  · exact (hi_facts _ x _ (lo_facts _ x).1).2.1
theorem rstrip_sl {q : Str} (hq : q.length ≠ 0) (h : (cl q).getD (q.length - 1) 0 ≠ 47) : Txt.rstripChars (q ++ Str.ofString "/") (Str.ofString "/") = q := by
  unfold Txt.rstripChars
  rw [PyProof.Rows.stripBy_eq]
  have lo : stripLo (Str.ofString "/").cps.contains false (q ++ Str.ofString "/") = 0 := by simp [stripLo]
  rw [lo]
  have hi' := hi_facts (Str.ofString "/").cps.contains (q ++ Str.ofString "/") 0 (Nat.zero_le _)
  have hl : (q ++ Str.ofString "/").length = q.length + 1 := by rw [len_app]; rfl
  have hx : cl (q ++ Str.ofString "/") = cl q ++ [47] := by rw [cl_app, cl_sl]
  have h1 : q.length - 1 < stripHi (Str.ofString "/").cps.contains true (q ++ Str.ofString "/") 0 := by
    apply Nat.lt_of_not_le
    intro hle
    have := hi'.2.2.1 _ hle (by lia)
    rw [goes_iff, getD_cl, hx] at this
    refine h ?_
    rw [← this]
    have : q.length - 1 < (cl q).length := by rw [cl_len]; lia
    simp [List.getD, List.getElem?_append_left this]
  have h2 : stripHi (Str.ofString "/").cps.contains true (q ++ Str.ofString "/") 0 ≠ q.length + 1 := by
    intro e
    rcases hi'.2.2.2 with h0 | h0
    · lia
    · rw [e, Nat.add_sub_cancel, getD_cl, hx] at h0
      have : (cl q ++ [47]).getD q.length 0 = 47 := by
        rw [List.getD, ← cl_len, List.getElem?_append_right (Nat.le_refl _)]
        simp
      rw [this] at h0
      have := (goes_iff 47).mpr rfl
      rw [this] at h0
      cases h0
  have h3 : stripHi (Str.ofString "/").cps.contains true (q ++ Str.ofString "/") 0 = q.length := by have := hi'.2.1; lia
  rw [h3]
  refine cl_ext ?_
  show (strSub _ 0 _).cps.toList = _
  rw [StrLaws.strSub_toList]
  show ((cl (q ++ Str.ofString "/")).drop 0).take (q.length - 0) = cl q
  rw [hx, List.drop_zero, Nat.sub_zero, ← cl_len, List.take_left]
/-- a path cut at its last slash -/
theorem split_at {q c : Str} (hc : 47 ∉ cl c) : hd0 (q ++ (Str.ofString "/" ++ c)) = q ++ Str.ofString "/" ∧ (splitP (q ++ (Str.ofString "/" ++ c))).2 = c := by
  have hx : cl (q ++ (Str.ofString "/" ++ c)) = (cl q ++ [47]) ++ cl c := by rw [cl_app, cl_app, cl_sl, List.append_assoc]
  have hlen : (cl q ++ [47]).length = q.length + 1 := by rw [List.length_append, cl_len]; rfl
  constructor
  · unfold hd0
    rw [rfind_at hc]
    refine cl_ext ?_
    rw [show ((q.length : Int) + 1) = ((q.length + 1 : Nat) : Int) from rfl, cl_slice_to, hx, ← hlen, List.take_left, cl_app, cl_sl]
  · unfold splitP
    dsimp only
    rw [rfind_at hc]
    refine cl_ext ?_
    rw [show ((q.length : Int) + 1) = ((q.length + 1 : Nat) : Int) from rfl, cl_slice_from, hx, ← hlen, List.drop_left]
theorem split_mid {q c : Str} (hc : 47 ∉ cl c) (hq : q.length ≠ 0) (h : (cl q).getD (q.length - 1) 0 ≠ 47) : splitP (q ++ (Str.ofString "/" ++ c)) = (q, c) := by
  obtain ⟨h1, h2⟩ := split_at (q := q) hc
  refine Prod.ext ?_ h2
  unfold splitP
  dsimp only
  rw [h1, if_neg (by rw [len_app]; lia), if_pos, rstrip_sl hq h]
  refine bne_iff_ne.mpr fun e => h ?_
  have e' := congrArg cl e
  rw [cl_app, cl_sl] at e'
  have hm : ∀ a ∈ cl (Txt.mul (Str.ofString "/") (((q ++ Str.ofString "/").length : Nat) : Int)), a = 47 := by
    intro a ha
    have e3 := mul_cl (q ++ Str.ofString "/").length
    rw [e3] at ha
    exact List.eq_of_mem_replicate ha
  rw [← e'] at hm
  have hlt : q.length - 1 < (cl q).length := by rw [cl_len]; lia
  have : (cl q).getD (q.length - 1) 0 = (cl q)[q.length - 1] := by simp [List.getD, hlt]
  rw [this]
  exact hm _ (List.mem_append.mpr (.inl (List.getElem_mem hlt)))
theorem split_head {c : Str} (hc : 47 ∉ cl c) : splitP c = (Str.ofString "", c) := by
  have h1 : hd0 c = Str.ofString "" := by
    unfold hd0
    rw [rfind_none hc]
    exact cl_ext (by rw [show ((-1 : Int) + 1) = ((0 : Nat) : Int) from rfl, cl_slice_to, cl_nil]; rfl)
  refine Prod.ext ?_ ?_
  · unfold splitP
    dsimp only
    rw [h1, if_pos (by decide +kernel)]
  · unfold splitP
    dsimp only
    rw [rfind_none hc]
    exact cl_ext (by rw [show ((-1 : Int) + 1) = ((0 : Nat) : Int) from rfl, cl_slice_from]; rfl)
theorem split_root1 {c : Str} (hc : 47 ∉ cl c) : splitP (Str.ofString "/" ++ c) = (Str.ofString "/", c) := by
  have h := split_at (q := Str.ofString "") hc
  rw [nil_app, nil_app] at h
  refine Prod.ext ?_ h.2
  unfold splitP
  dsimp only
  rw [h.1, if_neg (by decide +kernel), if_neg (by decide +kernel)]
theorem split_root2 {c : Str} (hc : 47 ∉ cl c) : splitP (Str.ofString "//" ++ c) = (Str.ofString "//", c) := by
  have e : Str.ofString "//" ++ c = Str.ofString "/" ++ (Str.ofString "/" ++ c) := cl_ext (by simp only [cl_app, cl_s2, cl_sl]; rfl)
  have e2 : Str.ofString "/" ++ Str.ofString "/" = Str.ofString "//" := by decide +kernel
  have h := split_at (q := Str.ofString "/") hc
  rw [← e, e2] at h
  refine Prod.ext ?_ h.2
  unfold splitP
  dsimp only
  rw [h.1, if_neg (by decide +kernel), if_neg (by decide +kernel)]
theorem last_app {q c : Str} (hc : c.length ≠ 0) : (cl (q ++ c)).getD ((q ++ c).length - 1) 0 = (cl c).getD (c.length - 1) 0 := by
  rw [cl_app, len_app]
  have e : q.length + c.length - 1 = (cl q).length + (c.length - 1) := by rw [cl_len]; lia
  rw [e, List.getD, List.getD, List.getElem?_append_right (Nat.le_add_right _ _), Nat.add_sub_cancel_left]
theorem last_free {c : Str} (hc : 47 ∉ cl c) (hn : c.length ≠ 0) : (cl c).getD (c.length - 1) 0 ≠ 47 := by
  intro h
  have hlt : c.length - 1 < (cl c).length := by rw [cl_len]; lia
  have e : (cl c).getD (c.length - 1) 0 = (cl c)[c.length - 1] := by simp [List.getD, hlt]
  rw [e] at h
  exact hc (h ▸ List.getElem_mem hlt)
theorem join_snoc (s : Str) {l : List Str} (hl : l ≠ []) (c : Str) : Str.join s (l ++ [c]) = Str.join s l ++ (s ++ c) := by
  rw [join_app s hl (by simp), app_assoc]; rfl
theorem join_last {l : List Str} (hl : l ≠ []) (h : ∀ p ∈ l, p.length ≠ 0 ∧ 47 ∉ cl p) : (cl (Str.join ⟨#[47]⟩ l)).getD ((Str.join ⟨#[47]⟩ l).length - 1) 0 ≠ 47 := by
  obtain ⟨l', c, rfl⟩ : ∃ l' c, l = l' ++ [c] := ⟨l.dropLast, l.getLast hl, (List.dropLast_concat_getLast hl).symm⟩
  have hc := h c (by simp)
  by_cases hl' : l' = []
  · subst hl'
    exact last_free hc.2 hc.1
  · rw [join_snoc _ hl', ← app_assoc, last_app hc.1]
    exact last_free hc.2 hc.1
theorem tails_law {r : Str} (hr : r = Str.ofString "" ∨ r = Str.ofString "/" ∨ r = Str.ofString "//") : ∀ {n : Nat} {l : List Str}, l.length = n + 1 → (∀ p ∈ l, p.length ≠ 0 ∧ 47 ∉ cl p) → TailsOf (r ++ Str.join ⟨#[47]⟩ l) (r :: l) := by
  have hstop : TailsOf r [r] := .stop (by rcases hr with rfl | rfl | rfl <;> decide +kernel)
  intro n
  induction n with
  | zero =>
    intro l hl h
    obtain ⟨c, rfl⟩ := List.length_eq_one_iff.mp hl
    have hc := h c (.head _)
    have e : splitP (r ++ c) = (r, c) := by
      rcases hr with rfl | rfl | rfl
      · rw [nil_app]; exact split_head hc.2
      · exact split_root1 hc.2
      · exact split_root2 hc.2
    show TailsOf (r ++ c) ([r] ++ [c])
    have := TailsOf.step (p := r ++ c) (l := [r]) (strip_mid (i := (r ++ c).length - 1) (by rw [len_app]; lia) (by rw [last_app hc.1]; exact last_free hc.2 hc.1)) (by rw [e, len_app]; dsimp only; lia) (by rw [e, len_app]; dsimp only; lia) (by rw [e]; exact hstop)
    rw [e] at this
    exact this
  | succ n ih =>
    intro l hl h
    have hne : l ≠ [] := by intro e; rw [e] at hl; cases hl
    obtain ⟨l', c, rfl⟩ : ∃ l' c, l = l' ++ [c] := ⟨l.dropLast, l.getLast hne, (List.dropLast_concat_getLast hne).symm⟩
    have hl' : l'.length = n + 1 := by simpa using hl
    have hne' : l' ≠ [] := by intro e; rw [e] at hl'; cases hl'
    have hc := h c (by simp)
    have hp : ∀ p ∈ l', p.length ≠ 0 ∧ 47 ∉ cl p := fun p hp => h p (List.mem_append.mpr (.inl hp))
    have hjl := join_ne (s := ⟨#[47]⟩) hne' fun p h' => (hp p h').1
    have hP : r ++ Str.join ⟨#[47]⟩ (l' ++ [c]) = (r ++ Str.join ⟨#[47]⟩ l') ++ (Str.ofString "/" ++ c) := by rw [join_snoc _ hne', sl_eq, app_assoc]
    have e : splitP ((r ++ Str.join ⟨#[47]⟩ l') ++ (Str.ofString "/" ++ c)) = (r ++ Str.join ⟨#[47]⟩ l', c) :=
      split_mid hc.2 (by rw [len_app]; lia) (by rw [last_app hjl]; exact join_last hne' hp)
    rw [hP]
    show TailsOf _ ((r :: l') ++ [c])
    have := TailsOf.step (p := (r ++ Str.join ⟨#[47]⟩ l') ++ (Str.ofString "/" ++ c)) (l := r :: l') (strip_mid (i := ((r ++ Str.join ⟨#[47]⟩ l') ++ (Str.ofString "/" ++ c)).length - 1) (by rw [len_app, len_app (Str.ofString "/")]; lia) (by rw [← app_assoc, last_app hc.1]; exact last_free hc.2 hc.1)) (by rw [e, len_app _ (Str.ofString "/" ++ c)]; dsimp only; lia) (by rw [e, len_app _ (Str.ofString "/" ++ c), len_app (Str.ofString "/")]; dsimp only; lia) (by rw [e]; exact ih hl' hp)
    rw [e] at this
    exact this
end

section
open PySem PySem.W PyProof.Rows PySem.Calls PySem.Builtin PySem.Builtin.Str
/-! law 01: where a path leads -/
/-- root, steps up, names -/
structure Pt where
  r : Str
  u : Nat
  k : List Str
noncomputable abbrev dd : Str := Str.ofString ".."
noncomputable def Pt.comps (c : Pt) : List Str := List.replicate c.u dd ++ c.k
noncomputable def render (c : Pt) : Str := if c.r.length = 0 ∧ c.comps = [] then Str.ofString "." else c.r ++ Str.join ⟨#[47]⟩ c.comps
inductive Kd : Str → Prop
  | e : Kd (Str.ofString "")
  | d : Kd (Str.ofString ".")
  | up : Kd (Str.ofString "..")
  | s1 : Kd (Str.ofString "/")
  | s2 : Kd (Str.ofString "//")
  | s3 : Kd (Str.ofString "///")
  | nm {p : Str} (h : part p) : Kd p
/-- up -/
noncomputable def Pt.pop (c : Pt) : Pt := if c.k.isEmpty then (if c.r.length = 0 then { c with u := c.u + 1 } else c) else { c with k := c.k.dropLast }
noncomputable def ptStep (c : Pt) (p : Str) : Pt :=
  if p == Str.ofString "" || p == Str.ofString "." then c
  else if p == Str.ofString ".." then c.pop
  else if p == Str.ofString "/" || p == Str.ofString "///" then ⟨Str.ofString "/", 0, []⟩
  else if p == Str.ofString "//" then ⟨Str.ofString "//", 0, []⟩
  else { c with k := c.k ++ [p] }
theorem pt_e (c : Pt) : ptStep c (Str.ofString "") = c := by unfold ptStep; rw [if_pos (by decide +kernel)]
theorem pt_d (c : Pt) : ptStep c (Str.ofString ".") = c := by unfold ptStep; rw [if_pos (by decide +kernel)]
theorem pt_up (c : Pt) : ptStep c (Str.ofString "..") = c.pop := by unfold ptStep; rw [if_neg (by decide +kernel), if_pos (by decide +kernel)]
theorem pt_s1 (c : Pt) : ptStep c (Str.ofString "/") = ⟨Str.ofString "/", 0, []⟩ := by unfold ptStep; rw [if_neg (by decide +kernel), if_neg (by decide +kernel), if_pos (by decide +kernel)]
theorem pt_s2 (c : Pt) : ptStep c (Str.ofString "//") = ⟨Str.ofString "//", 0, []⟩ := by unfold ptStep; rw [if_neg (by decide +kernel), if_neg (by decide +kernel), if_neg (by decide +kernel), if_pos (by decide +kernel)]
theorem pt_s3 (c : Pt) : ptStep c (Str.ofString "///") = ⟨Str.ofString "/", 0, []⟩ := by unfold ptStep; rw [if_neg (by decide +kernel), if_neg (by decide +kernel), if_pos (by decide +kernel)]
theorem part_ne {p : Str} (h : part p) {s : Str} (hs : 47 ∈ cl s) : (p == s) = false := beq_eq_false_iff_ne.mpr fun e => h.2 (e ▸ hs)
theorem part_e {p : Str} (h : part p) : (p == Str.ofString "") = false := beq_eq_false_iff_ne.mpr fun e => h.1.1 (by rw [e]; rfl)
theorem part_d {p : Str} (h : part p) : (p == Str.ofString ".") = false := beq_eq_false_iff_ne.mpr h.1.2.1
theorem part_u {p : Str} (h : part p) : (p == Str.ofString "..") = false := beq_eq_false_iff_ne.mpr h.1.2.2
theorem mem_s1 : 47 ∈ cl (Str.ofString "/") := by decide +kernel
theorem mem_s2 : 47 ∈ cl (Str.ofString "//") := by decide +kernel
theorem mem_s3 : 47 ∈ cl (Str.ofString "///") := by decide +kernel
theorem pt_nm (c : Pt) {p : Str} (h : part p) : ptStep c p = { c with k := c.k ++ [p] } := by
  unfold ptStep
  rw [part_e h, part_d h, part_u h, part_ne h mem_s1, part_ne h mem_s3, part_ne h mem_s2]
  rfl
/-- a path that is there -/
noncomputable def Good (c : Pt) : Prop := (∀ p ∈ c.k, part p) ∧ ((c.r = Str.ofString "") ∨ (c.u = 0 ∧ (c.r = Str.ofString "/" ∨ c.r = Str.ofString "//")))
noncomputable def Rep (x : Str) (c : Pt) : Prop := ∃ q R, x = q ++ R ∧ noSl R ∧ (comps R).foldl (npStep c.r) [] = c.comps ∧ Good c ∧
  ((c.r = Str.ofString "" ∧ q = Str.ofString "") ∨ (c.r = Str.ofString "/" ∧ (q = Str.ofString "/" ∨ q = Str.ofString "///")) ∨ (c.r = Str.ofString "//" ∧ q = Str.ofString "//"))
theorem rlen : (Str.ofString "/").length = 1 ∧ (Str.ofString "//").length = 2 ∧ (Str.ofString "///").length = 3 ∧ (Str.ofString "").length = 0 := ⟨rfl, rfl, rfl, rfl⟩
theorem np_up {c : Pt} (h : Good c) : npStep c.r c.comps (Str.ofString "..") = c.pop.comps := by
  obtain ⟨r, u, k⟩ := c
  rcases List.eq_nil_or_concat k with hk | ⟨k', n, hk⟩
  · subst hk
    have he : npStep r (List.replicate u dd) (Str.ofString "..") = (if r.length = 0 then List.replicate (u + 1) dd else List.replicate u dd) := by
      unfold npStep
      rw [if_neg (by decide +kernel), if_neg (by decide +kernel), if_neg (by decide +kernel)]
      rcases h.2 with h0 | ⟨h0, h1⟩
      · have h0' : r = Str.ofString "" := h0
        subst h0'
        rw [if_pos (show (Str.ofString "").length = 0 from rfl), List.replicate_succ']
        cases u with
        | zero => rw [if_pos ⟨rfl, rfl⟩]
        | succ u => rw [if_neg (by simp), if_pos (by rw [List.getLast?_replicate]; rfl)]
      · have h0' : u = 0 := h0
        subst h0'
        have hr : r.length ≠ 0 := by
          rcases h1 with h1 | h1
          · have h1' : r = Str.ofString "/" := h1
            subst h1'; decide +kernel
          · have h1' : r = Str.ofString "//" := h1
            subst h1'; decide +kernel
        rw [if_neg (fun hh => hr hh.1), if_neg hr, if_neg (by simp)]
        rfl
    show npStep r (List.replicate u dd ++ []) _ = (if (List.isEmpty []) = true then (if r.length = 0 then (⟨r, u + 1, []⟩ : Pt) else ⟨r, u, []⟩) else _).comps
    rw [List.append_nil, he]
    simp only [List.isEmpty_nil, if_true]
    split
    · exact (List.append_nil _).symm
    · exact (List.append_nil _).symm
  · rw [List.concat_eq_append] at hk
    subst hk
    have hn : part n := h.1 n (by simp)
    have e : (Pt.mk r u (k' ++ [n])).comps = (List.replicate u dd ++ k') ++ [n] := (List.append_assoc _ _ _).symm
    rw [e]
    show npStep r _ _ = _
    rw [np_pop hn.1]
    have : (Pt.mk r u (k' ++ [n])).pop = ⟨r, u, k'⟩ := by
      unfold Pt.pop
      rw [if_neg (by simp)]
      simp
    rw [this]; rfl
theorem good_pop {c : Pt} (h : Good c) : Good c.pop := by
  obtain ⟨r, u, k⟩ := c
  unfold Pt.pop
  split
  · split
    · rename_i h0
      exact ⟨h.1, .inl (eq_nil_of h0)⟩
    · exact h
  · exact ⟨fun p hp => h.1 p ((List.dropLast_sublist _).subset hp), h.2⟩
theorem good_step {c : Pt} {p : Str} (h : Good c) (hp : Kd p) : Good (ptStep c p) := by
  cases hp with
  | e => rw [pt_e]; exact h
  | d => rw [pt_d]; exact h
  | up => rw [pt_up]; exact good_pop h
  | s1 => rw [pt_s1]; exact ⟨fun _ h => (nomatch h), .inr ⟨rfl, .inl rfl⟩⟩
  | s2 => rw [pt_s2]; exact ⟨fun _ h => (nomatch h), .inr ⟨rfl, .inr rfl⟩⟩
  | s3 => rw [pt_s3]; exact ⟨fun _ h => (nomatch h), .inr ⟨rfl, .inl rfl⟩⟩
  | nm hq =>
    rw [pt_nm _ hq]
    refine ⟨fun p hp => ?_, h.2⟩
    rcases List.mem_append.mp hp with hp | hp
    · exact h.1 p hp
    · rw [List.mem_singleton.mp hp]; exact hq
theorem pj_sl {x b : Str} (h : Txt.startswith b (Str.ofString "/") = true) : pjStep x b = b := by unfold pjStep; rw [if_pos h]
theorem rep_root {x b r : Str} (h : Txt.startswith b (Str.ofString "/") = true) (hb : (r = Str.ofString "/" ∧ (b = Str.ofString "/" ∨ b = Str.ofString "///")) ∨ (r = Str.ofString "//" ∧ b = Str.ofString "//")) : Rep (pjStep x b) ⟨r, 0, []⟩ := by
  rw [pj_sl h]
  refine ⟨b, Str.ofString "", (app_nil b).symm, noSl_nil, by rw [comps_nil]; rfl, ⟨fun _ h => (nomatch h), .inr ⟨rfl, ?_⟩⟩, .inr hb⟩
  rcases hb with h | h
  · exact .inl h.1
  · exact .inr h.1
theorem rep_pj {x b : Str} {c : Pt} (h : Rep x c) (hb : noSl b) {c' : Pt} (hr : c'.r = c.r) (hg : Good c') (he : (comps b).foldl (npStep c.r) c.comps = c'.comps) : Rep (pjStep x b) c' := by
  obtain ⟨q, R, rfl, hR, hf, _, hq⟩ := h
  have e : pjStep (q ++ R) b = q ++ pjStep R b := by
    rcases hq with ⟨_, rfl⟩ | ⟨_, rfl | rfl⟩ | ⟨_, rfl⟩
    · rw [nil_app, nil_app]
    · exact pj_root (by decide +kernel) hb (by decide +kernel)
    · exact pj_root (by decide +kernel) hb (by decide +kernel)
    · exact pj_root (by decide +kernel) hb (by decide +kernel)
  rw [e]
  refine ⟨q, _, rfl, pj_noSl hR hb, ?_, hg, by rw [hr]; exact hq⟩
  rw [comps_pj hb, List.foldl_append, hr, hf, he]
theorem rep_good {x : Str} {c : Pt} (h : Rep x c) : Good c := by obtain ⟨_, _, _, _, _, h, _⟩ := h; exact h
theorem noSl_of {b : Str} (h : (Txt.startswith b (Str.ofString "/") == false) = true) : noSl b := by simpa using h
theorem rep_step {x p : Str} {c : Pt} (h : Rep x c) (hp : Kd p) : Rep (pjStep x p) (ptStep c p) := by
  have hg := rep_good h
  cases hp with
  | e => rw [pt_e]; exact rep_pj h noSl_nil rfl hg (by rw [comps_nil]; rfl)
  | d => rw [pt_d]; exact rep_pj h (noSl_of (by decide +kernel)) rfl hg (by rw [comps_one (by decide +kernel) (by decide +kernel)]; show npStep c.r c.comps (Str.ofString ".") = c.comps; exact np_dot (root := c.r))
  | up =>
    rw [pt_up]
    refine rep_pj h (noSl_of (by decide +kernel)) ?_ (good_pop hg) (by rw [comps_one (by decide +kernel) (by decide +kernel)]; exact np_up hg)
    unfold Pt.pop
    split
    · split <;> rfl
    · rfl
  | s1 => rw [pt_s1]; exact rep_root (by decide +kernel) (.inl ⟨rfl, .inl rfl⟩)
  | s2 => rw [pt_s2]; exact rep_root (by decide +kernel) (.inr ⟨rfl, rfl⟩)
  | s3 => rw [pt_s3]; exact rep_root (by decide +kernel) (.inl ⟨rfl, .inr rfl⟩)
  | nm hq =>
    rw [pt_nm _ hq]
    refine rep_pj h (part_noSl hq) rfl (by have := good_step hg (.nm hq); rwa [pt_nm _ hq] at this) ?_
    rw [comps_one hq.2 hq.1.1]
    show npStep c.r c.comps p = List.replicate c.u dd ++ (c.k ++ [p])
    rw [np_name hq.1, ← List.append_assoc]; rfl
noncomputable abbrev pt0 : Pt := ⟨Str.ofString "", 0, []⟩
theorem rep_0 : Rep (Str.ofString "") pt0 := ⟨Str.ofString "", Str.ofString "", (app_nil _).symm, noSl_nil, by rw [comps_nil]; rfl, ⟨fun _ h => (nomatch h), .inl rfl⟩, .inl ⟨rfl, rfl⟩⟩
theorem rep_fold : ∀ {l : List Str} {x : Str} {c : Pt}, Rep x c → (∀ p ∈ l, Kd p) → Rep (l.foldl pjStep x) (l.foldl ptStep c)
  | [], _, _, h, _ => h
  | p :: l, _, _, h, hl => rep_fold (l := l) (rep_step h (hl p (.head _))) fun q hq => hl q (.tail _ hq)
theorem comps_part {c : Pt} (h : Good c) : ∀ p ∈ c.comps, p.length ≠ 0 ∧ 47 ∉ cl p := by
  intro p hp
  rcases List.mem_append.mp hp with hp | hp
  · rw [(List.mem_replicate.mp hp).2]
    exact ⟨by decide +kernel, by decide +kernel⟩
  · exact ⟨(h.1 p hp).1.1, (h.1 p hp).2⟩
theorem npath_of {x r R : Str} {l : List Str} (e : sroot x = (r, R)) (hc : (comps R).foldl (npStep r) [] = l) (hl : ∀ p ∈ l, p.length ≠ 0) (h0 : x.length = 0 → r.length = 0 ∧ l = []) :
    npath x = if r.length = 0 ∧ l = [] then Str.ofString "." else r ++ Str.join ⟨#[47]⟩ l := by
  have e5 : npComps x = l := by
    unfold npComps
    rw [e, show Txt.split R (Str.ofString "/") = sp R from rfl, fold_sp, hc]
  unfold npath
  rw [e5, e, tjoin_sl]
  by_cases hx : x.length = 0
  · rw [if_pos (by lia), if_pos (h0 hx)]
  · rw [if_neg (by lia)]
    by_cases hr : r.length = 0 ∧ l = []
    · rw [if_pos hr, if_pos]
      rw [hr.2, len_app, hr.1]; rfl
    · rw [if_neg hr, if_neg]
      rw [len_app]
      intro hz
      refine hr ⟨by lia, ?_⟩
      by_cases hn : l = []
      · exact hn
      · exact absurd (by lia) (join_ne (s := ⟨#[47]⟩) hn hl)
theorem rep_npath {x : Str} {c : Pt} (h : Rep x c) : npath x = render c := by
  obtain ⟨q, R, rfl, hR, hf, hg, hq⟩ := h
  have hl : ∀ p ∈ c.comps, p.length ≠ 0 := fun p hp => (comps_part hg p hp).1
  have cz : R.length = 0 → c.comps = [] := fun h => by rw [← hf, eq_nil_of h, comps_nil]; rfl
  unfold render
  rcases hq with ⟨hr, rfl⟩ | ⟨hr, rfl | rfl⟩ | ⟨hr, rfl⟩
  · rw [nil_app]
    refine npath_of (R := R) (by rw [hr]; exact sroot0 hR) hf hl fun h => ⟨by rw [hr]; rfl, cz h⟩
  · refine npath_of (R := R) (by rw [hr]; exact sroot1 hR) hf hl fun h => ?_
    rw [len_app, rlen.1] at h; lia
  · refine npath_of (R := Str.ofString "//" ++ R) (by rw [hr]; exact sroot3) ?_ hl fun h => ?_
    · have e2 : Str.ofString "//" ++ R = Str.ofString "" ++ (Str.ofString "/" ++ (Str.ofString "" ++ (Str.ofString "/" ++ R))) :=
        cl_ext (by simp only [cl_app, cl_s2, cl_sl, cl_nil]; rfl)
      rw [e2, comps_app, comps_app, comps_nil, List.nil_append, List.nil_append, hf]
    · rw [len_app, rlen.2.2.1] at h; lia
  · refine npath_of (R := R) (by rw [hr]; exact sroot2 hR) hf hl fun h => ?_
    rw [len_app, rlen.2.1] at h; lia
/-- a way that was straightened is the way itself -/
theorem np_comps {r : Str} : ∀ {k acc : List Str}, (∀ p ∈ k, part p) → k.foldl (npStep r) acc = acc ++ k
  | [], acc, _ => (List.append_nil _).symm
  | p :: k, acc, h => by rw [List.foldl_cons, np_name (h p (.head _)).1, np_comps fun q hq => h q (.tail _ hq), List.append_assoc]; rfl
theorem np_ups : ∀ (u n : Nat), (List.replicate u dd).foldl (npStep (Str.ofString "")) (List.replicate n dd) = List.replicate (n + u) dd
  | 0, _ => rfl
  | u + 1, n => by
    rw [List.replicate_succ, List.foldl_cons]
    have h := np_up (c := ⟨Str.ofString "", n, []⟩) ⟨fun _ h => (nomatch h), .inl rfl⟩
    have e1 : (Pt.mk (Str.ofString "") n []).comps = List.replicate n dd := List.append_nil _
    have e2 : (Pt.mk (Str.ofString "") n []).pop.comps = List.replicate (n + 1) dd := List.append_nil _
    rw [e1, e2] at h
    have h' : npStep (Str.ofString "") (List.replicate n dd) dd = List.replicate (n + 1) dd := h
    rw [h', np_ups u (n + 1)]
    congr 1; lia
theorem join_comps {l : List Str} (h : ∀ p ∈ l, p.length ≠ 0 ∧ 47 ∉ cl p) : comps (Str.join ⟨#[47]⟩ l) = l := by
  by_cases hn : l = []
  · subst hn; exact comps_nil
  · rw [comps_join hn (fun p hp => (h p hp).2) rfl]
    exact List.filter_eq_self.mpr fun p hp => by simpa using (h p hp).1
theorem join_noSl {l : List Str} (h : ∀ p ∈ l, p.length ≠ 0 ∧ 47 ∉ cl p) : noSl (Str.join ⟨#[47]⟩ l) := by
  cases l with
  | nil => exact noSl_nil
  | cons a l =>
    have ha := h a (.head _)
    have e : ∃ z, Str.join ⟨#[47]⟩ (a :: l) = a ++ z := by
      cases l with
      | nil => exact ⟨Str.ofString "", (app_nil a).symm⟩
      | cons b l => exact ⟨⟨#[47]⟩ ++ Str.join ⟨#[47]⟩ (b :: l), by rw [join_cons2, app_assoc]⟩
    obtain ⟨z, e⟩ := e
    rw [e]
    show Txt.startswith _ _ = false
    rw [starts_app ha.1, starts_iff]
    exact decide_eq_false fun he => ha.2 (List.mem_of_mem_head? he)
theorem fold_comps {c : Pt} (h : Good c) : c.comps.foldl (npStep c.r) [] = c.comps := by
  unfold Pt.comps
  rw [List.foldl_append]
  rcases h.2 with hr | ⟨hu, _⟩
  · rw [hr, show ([] : List Str) = List.replicate 0 dd from rfl, np_ups, np_comps h.1, Nat.zero_add]
  · rw [hu]; exact np_comps h.1
theorem rep_render {c : Pt} (h : Good c) : Rep (render c) c := by
  have hc := comps_part h
  have base : ∀ q, ((c.r = Str.ofString "" ∧ q = Str.ofString "") ∨ (c.r = Str.ofString "/" ∧ (q = Str.ofString "/" ∨ q = Str.ofString "///")) ∨ (c.r = Str.ofString "//" ∧ q = Str.ofString "//")) → Rep (q ++ Str.join ⟨#[47]⟩ c.comps) c := fun q hq =>
    ⟨q, _, rfl, join_noSl hc, by rw [join_comps hc, fold_comps h], h, hq⟩
  unfold render
  split
  · rename_i h0
    have hr : c.r = Str.ofString "" := eq_nil_of h0.1
    refine ⟨Str.ofString "", Str.ofString ".", (nil_app _).symm, noSl_of (by decide +kernel), ?_, h, .inl ⟨hr, rfl⟩⟩
    rw [comps_one (by decide +kernel) (by decide +kernel), h0.2]
    show npStep c.r [] (Str.ofString ".") = []
    exact np_dot (root := c.r)
  · rcases h.2 with hr | ⟨_, hr | hr⟩
    · rw [hr]; exact base _ (.inl ⟨hr, rfl⟩)
    · rw [hr]; exact base _ (.inr (.inl ⟨hr, .inl rfl⟩))
    · rw [hr]; exact base _ (.inr (.inr ⟨hr, rfl⟩))
/-- one step of the walk -/
theorem walk_step {c : Pt} {p : Str} (h : Good c) (hp : Kd p) : npath (pjStep (render c) p) = render (ptStep c p) := rep_npath (rep_step (rep_render h) hp)
/-- the whole, joined first -/
theorem whole_norm {l : List Str} (hl : ∀ p ∈ l, Kd p) : npath (l.foldl pjStep (Str.ofString "")) = render (l.foldl ptStep pt0) := rep_npath (rep_fold rep_0 hl)
end

section
open PySem PySem.W PyProof.Rows PySem.Calls PySem.Builtin PySem.Builtin.Str
/-! straight, from behind -/
noncomputable def ownNm (p : Str) : Bool := !(p == Str.ofString "" || p == Str.ofString ".")
noncomputable def stEnd (kept : List Str) (debt : Nat) : List Str :=
  Str.ofString "" :: (if (List.replicate debt dd ++ kept).isEmpty then [Str.ofString "."] else List.replicate debt dd ++ kept)
noncomputable def stGo : List Str → List Str → Nat → List Str
  | [], kept, debt => stEnd kept debt
  | p :: r, kept, debt =>
    if Txt.slice p none (some 1) == Str.ofString "/" then (if p == Str.ofString "//" then Str.ofString "//" else Str.ofString "/") :: kept
    else if p == Str.ofString ".." then stGo r kept (debt + 1)
    else if ownNm p && decide (0 < debt) then stGo r kept (debt - 1)
    else if ownNm p then stGo r (p :: kept) debt
    else stGo r kept debt
noncomputable def straightF (parts : List Str) : List Str := stGo parts.reverse [] 0
noncomputable def outL (c : Pt) (kept : List Str) (debt : Nat) : List Str :=
  if c.r.length = 0 then stEnd (c.k.take (c.k.length - debt) ++ kept) (c.u + (debt - c.k.length)) else c.r :: (c.k.take (c.k.length - debt) ++ kept)
theorem sl_one {p : Str} (h : part p) : (Txt.slice p none (some 1) == Str.ofString "/") = false := by
  rw [beq_eq_false_iff_ne]
  intro e
  have e' := congrArg cl e
  rw [sl1, cl_sl] at e'
  exact take1_ne (noSl_cl (part_noSl h)) e'
theorem own_part {p : Str} (h : part p) : ownNm p = true := by unfold ownNm; rw [part_e h, part_d h]; rfl
theorem st_law : ∀ (n : Nat) (l : List Str), l.length = n → (∀ p ∈ l, Kd p) → ∀ kept debt, stGo l.reverse kept debt = outL (l.foldl ptStep pt0) kept debt := by
  intro n
  induction n with
  | zero =>
    intro l hl _ kept debt
    rw [List.eq_nil_of_length_eq_zero hl]
    show stEnd kept debt = outL pt0 kept debt
    unfold outL
    rw [if_pos (show (Str.ofString "").length = 0 from rfl)]
    simp
  | succ n ih =>
    intro l hl hk kept debt
    have hne : l ≠ [] := by intro e; rw [e] at hl; cases hl
    obtain ⟨l', p, rfl⟩ : ∃ l' p, l = l' ++ [p] := ⟨l.dropLast, l.getLast hne, (List.dropLast_concat_getLast hne).symm⟩
    have hl' : l'.length = n := by simpa using hl
    have ih' := ih l' hl' fun q hq => hk q (List.mem_append.mpr (.inl hq))
    have hp : Kd p := hk p (by simp)
    rw [List.reverse_append, List.foldl_append]
    show stGo (p :: l'.reverse) kept debt = outL (ptStep (l'.foldl ptStep pt0) p) kept debt
    generalize l'.foldl ptStep pt0 = c at *
    unfold stGo
    cases hp with
    | e => rw [pt_e, if_neg (by decide +kernel), if_neg (by decide +kernel), if_neg (by rw [show ownNm (Str.ofString "") = false by decide +kernel]; exact Bool.false_ne_true), if_neg (by decide +kernel)]; exact ih' _ _
    | d => rw [pt_d, if_neg (by decide +kernel), if_neg (by decide +kernel), if_neg (by rw [show ownNm (Str.ofString ".") = false by decide +kernel]; exact Bool.false_ne_true), if_neg (by decide +kernel)]; exact ih' _ _
    | up =>
      rw [pt_up, if_neg (by decide +kernel), if_pos (by decide +kernel), ih']
      obtain ⟨r, u, k⟩ := c
      rcases List.eq_nil_or_concat k with hc | ⟨k', x, hc⟩
      · subst hc
        by_cases hr : r.length = 0
        · rw [show (Pt.mk r u []).pop = ⟨r, u + 1, []⟩ by unfold Pt.pop; rw [if_pos (by rfl), if_pos hr]]
          unfold outL
          rw [if_pos hr, if_pos hr]
          simp only [List.length_nil, List.take_nil, Nat.sub_zero]
          rw [show u + (debt + 1) = u + 1 + debt by lia]
        · rw [show (Pt.mk r u []).pop = ⟨r, u, []⟩ by unfold Pt.pop; rw [if_pos (by rfl), if_neg hr]]
          unfold outL
          rw [if_neg hr, if_neg hr]
          simp
      · rw [List.concat_eq_append] at hc
        subst hc
        rw [show (Pt.mk r u (k' ++ [x])).pop = ⟨r, u, k'⟩ by unfold Pt.pop; rw [if_neg (by simp)]; simp]
        unfold outL
        dsimp only
        have e1 : (k' ++ [x]).take ((k' ++ [x]).length - (debt + 1)) = k'.take (k'.length - debt) := by
          rw [List.take_append_of_le_length (by simp)]
          congr 1
          simp
        have e2 : debt + 1 - (k' ++ [x]).length = debt - k'.length := by simp
        rw [e1, e2]
    | s1 => rw [pt_s1, if_pos (by decide +kernel), if_neg (by decide +kernel)]; unfold outL; rw [if_neg (by decide +kernel)]; simp
    | s2 => rw [pt_s2, if_pos (by decide +kernel), if_pos (by decide +kernel)]; unfold outL; rw [if_neg (by decide +kernel)]; simp
    | s3 => rw [pt_s3, if_pos (by decide +kernel), if_neg (by decide +kernel)]; unfold outL; rw [if_neg (by decide +kernel)]; simp
    | nm hq =>
      rw [pt_nm _ hq, if_neg (by rw [sl_one hq]; exact Bool.false_ne_true), if_neg (by rw [part_u hq]; exact Bool.false_ne_true), own_part hq]
      by_cases hd : 0 < debt
      · rw [if_pos (by simpa using hd), ih']
        unfold outL
        dsimp only
        have e1 : (c.k ++ [p]).take ((c.k ++ [p]).length - debt) = c.k.take (c.k.length - (debt - 1)) := by
          rw [List.take_append_of_le_length (by simp; lia)]
          congr 1
          simp; lia
        have e2 : debt - (c.k ++ [p]).length = debt - 1 - c.k.length := by simp; lia
        rw [e1, e2]
      · rw [if_neg (by simpa using hd), if_pos rfl, ih']
        have h0 : debt = 0 := by lia
        subst h0
        unfold outL
        dsimp only
        rw [Nat.sub_zero, Nat.sub_zero, List.take_length, List.take_length, List.append_assoc, Nat.zero_sub, Nat.zero_sub]
        rfl
/-- root and pieces -/
noncomputable def toL (c : Pt) : List Str := c.r :: (if c.r.length = 0 ∧ c.comps = [] then [Str.ofString "."] else c.comps)
theorem out_to {c : Pt} (h : Good c) : outL c [] 0 = toL c := by
  unfold outL toL
  rw [Nat.sub_zero, List.take_length, List.append_nil, Nat.zero_sub, Nat.add_zero]
  by_cases hr : c.r.length = 0
  · rw [if_pos hr, eq_nil_of hr]
    unfold stEnd
    show _ :: (if c.comps.isEmpty = true then _ else c.comps) = _
    by_cases hc : c.comps = []
    · rw [if_pos (by rw [hc]; rfl), if_pos ⟨rfl, hc⟩]
    · rw [if_neg (by simpa using hc), if_neg fun h => hc h.2]
  · rw [if_neg hr, if_neg fun h => hr h.1]
    rcases h.2 with h2 | ⟨h2, _⟩
    · exact absurd (by rw [h2]; rfl) hr
    · unfold Pt.comps; rw [h2]; rfl
theorem good_fold : ∀ {l : List Str} {c : Pt}, Good c → (∀ p ∈ l, Kd p) → Good (l.foldl ptStep c)
  | [], _, h, _ => h
  | p :: l, _, h, hl => good_fold (l := l) (good_step h (hl p (.head _))) fun q hq => hl q (.tail _ hq)
theorem good_0 : Good pt0 := ⟨fun _ h => (nomatch h), .inl rfl⟩
theorem straight_law {l : List Str} (hl : ∀ p ∈ l, Kd p) : straightF l = toL (l.foldl ptStep pt0) := by
  unfold straightF
  rw [st_law _ l rfl hl, out_to (good_fold good_0 hl)]
theorem tails_to {c : Pt} (h : Good c) : TailsOf (render c) (toL c) := by
  have hr : c.r = Str.ofString "" ∨ c.r = Str.ofString "/" ∨ c.r = Str.ofString "//" := by
    rcases h.2 with h | ⟨_, h | h⟩
    · exact .inl h
    · exact .inr (.inl h)
    · exact .inr (.inr h)
  unfold render toL
  by_cases h0 : c.r.length = 0 ∧ c.comps = []
  · rw [if_pos h0, if_pos h0]
    have := tails_law (r := Str.ofString "") (.inl rfl) (n := 0) (l := [Str.ofString "."]) rfl (by decide +kernel)
    rw [eq_nil_of h0.1]
    rwa [nil_app] at this
  · rw [if_neg h0, if_neg h0]
    by_cases hc : c.comps = []
    · rw [hc]
      show TailsOf (c.r ++ Str.ofString "") [c.r]
      rw [app_nil]
      exact .stop (by rcases hr with e | e | e <;> (rw [e]; decide +kernel))
    · obtain ⟨n, hn⟩ : ∃ n, c.comps.length = n + 1 := by
        cases hh : c.comps with
        | nil => exact absurd hh hc
        | cons a l => exact ⟨l.length, rfl⟩
      exact tails_law hr hn (comps_part h)
/-! joined -/
noncomputable def jf (c : Str × List Str) : Str := c.1 ++ Txt.join (Str.ofString "/") ((c.2.dropLast.filter fun p => !(p == Str.ofString "")) ++ c.2.drop (c.2.length - 1))
noncomputable def jfStep (c : Str × List Str) (p : Str) : Str × List Str := if Txt.slice p none (some 1) == Str.ofString "/" then (p, []) else (c.1, c.2 ++ [p])
noncomputable def joinedF (parts : List Str) : Str := jf (parts.foldl jfStep (Str.ofString "", []))
noncomputable def rootT (r : Str) : Prop := r = Str.ofString "" ∨ (Txt.endswith r (Str.ofString "/") = true ∧ r.length ≠ 0)
noncomputable def flat (p : Str) : Prop := 47 ∉ cl p
theorem ends_free {q b : Str} (hb : 47 ∉ cl b) (hl : b.length ≠ 0) : Txt.endswith (q ++ b) (Str.ofString "/") = false := by
  rw [ends_app hl]
  cases h : Txt.endswith b (Str.ofString "/") with
  | false => rfl
  | true =>
    obtain ⟨z, rfl⟩ := ends_of h
    exact absurd (by rw [cl_app, cl_sl]; simp) hb
theorem noSl_flat {p : Str} (h : flat p) : noSl p := by
  rw [noSl, starts_iff]
  exact decide_eq_false fun e => h (List.mem_of_mem_head? e)
theorem jf_pj {c : Str × List Str} (hr : rootT c.1) (hf : ∀ p ∈ c.2, flat p) {p : Str} (hp : flat p) : jf (c.1, c.2 ++ [p]) = pjStep (jf c) p := by
  obtain ⟨r, l⟩ := c
  have hs := noSl_flat hp
  have root : ∀ (x : Str), noSl x → pjStep r x = r ++ x := by
    intro x hx
    rcases hr with h | ⟨h1, h2⟩
    · have h' : r = Str.ofString "" := h
      subst h'
      unfold pjStep
      rw [if_neg (by rw [hx]; exact Bool.false_ne_true), if_pos (by rfl), nil_app]
    · unfold pjStep
      rw [if_neg (by rw [hx]; exact Bool.false_ne_true), if_neg (by have : r.length ≠ 0 := h2; lia), if_pos h1]
  unfold jf
  dsimp only
  rw [List.dropLast_concat, show (l ++ [p]).drop ((l ++ [p]).length - 1) = [p] by simp]
  rcases List.eq_nil_or_concat l with hl | ⟨l', b, hl⟩
  · subst hl
    show r ++ Txt.join _ [p] = pjStep (r ++ Txt.join _ []) p
    rw [tjoin_sl, tjoin_sl]
    show r ++ p = pjStep (r ++ Str.ofString "") p
    rw [app_nil, root p hs]
  · rw [List.concat_eq_append] at hl
    subst hl
    have hb : flat b := hf b (by simp)
    have hff : ∀ q ∈ (l'.filter fun p => !(p == Str.ofString "")), q.length ≠ 0 ∧ 47 ∉ cl q := fun q hq => by
      have h1 := List.mem_filter.mp hq
      refine ⟨fun h0 => ?_, hf q (by simp [h1.1])⟩
      have := h1.2
      rw [eq_nil_of h0] at this
      simp at this
    rw [List.dropLast_concat, show (l' ++ [b]).drop ((l' ++ [b]).length - 1) = [b] by simp, List.filter_append]
    generalize hX : (l'.filter fun p => !(p == Str.ofString "")) = X at *
    by_cases hb0 : b.length = 0
    · have e := eq_nil_of hb0
      subst e
      have e1 : ([Str.ofString ""].filter fun p => !(p == Str.ofString "")) = [] := by decide +kernel
      rw [e1, List.append_nil]
      by_cases hX0 : X = []
      · rw [hX0, tjoin_sl, tjoin_sl]
        show r ++ p = pjStep (r ++ Str.ofString "") p
        rw [app_nil, root p hs]
      · rw [tjoin_sl, tjoin_sl, join_snoc _ hX0, join_snoc _ hX0, app_nil]
        have e2 : r ++ (Str.join ⟨#[47]⟩ X ++ ⟨#[47]⟩) = (r ++ Str.join ⟨#[47]⟩ X) ++ Str.ofString "/" := by rw [sl_eq, app_assoc]
        rw [e2]
        unfold pjStep
        rw [if_neg (by rw [hs]; exact Bool.false_ne_true), if_neg (by rw [len_app _ (Str.ofString "/"), rlen.1]; lia), if_pos (ends_sl _), sl_eq]
        simp only [app_assoc]
    · have e1 : ([b].filter fun p => !(p == Str.ofString "")) = [b] := by
        have : (b == Str.ofString "") = false := beq_eq_false_iff_ne.mpr fun e => hb0 (by rw [e]; rfl)
        simp [List.filter, this]
      rw [e1, tjoin_sl, tjoin_sl, join_snoc _ (by simp : X ++ [b] ≠ [])]
      have e3 : ∃ z, Str.join ⟨#[47]⟩ (X ++ [b]) = z ++ b := by
        by_cases hX0 : X = []
        · exact ⟨Str.ofString "", by rw [hX0, nil_app]; rfl⟩
        · exact ⟨Str.join ⟨#[47]⟩ X ++ ⟨#[47]⟩, by rw [join_snoc _ hX0, app_assoc]⟩
      obtain ⟨z, e3⟩ := e3
      rw [e3]
      unfold pjStep
      rw [if_neg (by rw [hs]; exact Bool.false_ne_true), if_neg (by rw [len_app r, len_app z]; lia), if_neg (by rw [← app_assoc, ends_free hb hb0]; exact Bool.false_ne_true), sl_eq]
      simp only [app_assoc]
theorem joined_law : ∀ (n : Nat) (l : List Str), l.length = n → (∀ p ∈ l, Kd p) → jf (l.foldl jfStep (Str.ofString "", [])) = l.foldl pjStep (Str.ofString "") ∧ rootT (l.foldl jfStep (Str.ofString "", [])).1 ∧ ∀ p ∈ (l.foldl jfStep (Str.ofString "", [])).2, flat p := by
  intro n
  induction n with
  | zero =>
    intro l hl _
    rw [List.eq_nil_of_length_eq_zero hl]
    exact ⟨by decide +kernel, .inl rfl, fun _ h => (nomatch h)⟩
  | succ n ih =>
    intro l hl hk
    have hne : l ≠ [] := by intro e; rw [e] at hl; cases hl
    obtain ⟨l', p, rfl⟩ : ∃ l' p, l = l' ++ [p] := ⟨l.dropLast, l.getLast hne, (List.dropLast_concat_getLast hne).symm⟩
    have hl' : l'.length = n := by simpa using hl
    obtain ⟨i1, i2, i3⟩ := ih l' hl' fun q hq => hk q (List.mem_append.mpr (.inl hq))
    have hp : Kd p := hk p (by simp)
    rw [List.foldl_append, List.foldl_append]
    show jf (jfStep (l'.foldl jfStep _) p) = pjStep (l'.foldl pjStep _) p ∧ rootT (jfStep (l'.foldl jfStep _) p).1 ∧ ∀ q ∈ (jfStep (l'.foldl jfStep _) p).2, flat q
    rw [← i1]
    generalize l'.foldl jfStep _ = c at *
    have plain : flat p → (Txt.slice p none (some 1) == Str.ofString "/") = false → jf (jfStep c p) = pjStep (jf c) p ∧ rootT (jfStep c p).1 ∧ ∀ q ∈ (jfStep c p).2, flat q := by
      intro hf h0
      unfold jfStep
      rw [if_neg (by rw [h0]; exact Bool.false_ne_true)]
      refine ⟨jf_pj i2 i3 hf, i2, fun q hq => ?_⟩
      rcases List.mem_append.mp hq with hq | hq
      · exact i3 q hq
      · rw [List.mem_singleton.mp hq]; exact hf
    have root : Txt.startswith p (Str.ofString "/") = true → (Txt.slice p none (some 1) == Str.ofString "/") = true → (Txt.endswith p (Str.ofString "/") = true ∧ p.length ≠ 0) → jf (jfStep c p) = pjStep (jf c) p ∧ rootT (jfStep c p).1 ∧ ∀ q ∈ (jfStep c p).2, flat q := by
      intro h1 h0 h2
      unfold jfStep
      rw [if_pos h0]
      refine ⟨?_, .inr h2, fun _ h => (nomatch h)⟩
      rw [pj_sl h1]
      show p ++ Txt.join _ [] = p
      rw [tjoin_sl]
      exact app_nil p
    cases hp with
    | e => exact plain (by unfold flat; decide +kernel) (by decide +kernel)
    | d => exact plain (by unfold flat; decide +kernel) (by decide +kernel)
    | up => exact plain (by unfold flat; decide +kernel) (by decide +kernel)
    | s1 => exact root (by decide +kernel) (by decide +kernel) ⟨by decide +kernel, by decide +kernel⟩
    | s2 => exact root (by decide +kernel) (by decide +kernel) ⟨by decide +kernel, by decide +kernel⟩
    | s3 => exact root (by decide +kernel) (by decide +kernel) ⟨by decide +kernel, by decide +kernel⟩
    | nm hq => exact plain hq.2 (sl_one hq)
end

section
open PySem PySem.W PyProof.Rows PySem.Calls PySem.Builtin PySem.Builtin.Str
/-! law 01: the names, their rows, the places -/
noncomputable def meantT : List (Str × List Str) := ([("a", ["a"]), ("a*", ["a", "ab"]), ("?", ["a", "b"]), ("[!a]", ["b"]), ("*b", ["b", "ab"]), ("[a-b]", ["a", "b"]), ("[b-a]*", []), ("?b", ["ab"]), ("[!b]*", ["a", "ab"]), ("*[!b]", ["a"]), ("[ab][!a]", ["ab"]), (".*", []), ("**b", ["b", "ab"])] : List (String × List String)).map fun p => (Str.ofString p.1, p.2.map Str.ofString)
noncomputable def meantF (p : Str) : Option (List Str) := (meantT.find? fun q => q.1 == p).map (·.2)
noncomputable def drawnT : List Str := (["", ".", "..", "..", "/", "//", "///", "a", "a*", "?", "[!a]", "*b", "[a-b]", "[b-a]*", "?b", "[!b]*", "*[!b]", "[ab][!a]", ".*", "**b"] : List String).map Str.ofString
noncomputable def partB (c : Str) : Bool := (decide (c.length ≠ 0) && !(c == Str.ofString ".") && !(c == Str.ofString "..")) && !((cl c).contains 47)
theorem part_of {c : Str} (h : partB c = true) : part c := by
  unfold partB at h
  rw [Bool.and_eq_true] at h
  exact ⟨nm_of h.1, by simpa using h.2⟩
/-- what a piece is -/
inductive Dr : Str → Prop
  | sp {p : Str} (hk : Kd p) (hs : ¬ part p) (hm : meantF p = none) (hl : p.length ≤ 8) : Dr p
  | pat {p : Str} (ns : List Str) (hm : meantF p = some ns) (hp : part p) (hl : p.length ≤ 8) (hn : ∀ n ∈ ns, part n ∧ n.length ≤ 2) (hd : ns.Nodup) (h2 : ns.length ≤ 2) : Dr p
theorem Dr.kd {p : Str} (h : Dr p) : Kd p := by
  cases h with
  | sp hk => exact hk
  | pat _ _ hp => exact .nm hp
noncomputable def patB (p : Str) : Bool := match meantF p with
  | none => false
  | some ns => partB p && decide (p.length ≤ 8) && (ns.all fun n => partB n && decide (n.length ≤ 2)) && decide ns.Nodup && decide (ns.length ≤ 2)
theorem dr_pat {p : Str} (h : patB p = true) : Dr p := by
  unfold patB at h
  split at h
  · cases h
  · rename_i ns hm
    simp only [Bool.and_eq_true, decide_eq_true_eq, List.all_eq_true] at h
    exact .pat ns hm (part_of h.1.1.1.1) h.1.1.1.2 (fun n hn => ⟨part_of (h.1.1.2 n hn).1, (h.1.1.2 n hn).2⟩) h.1.2 h.2
theorem drawn_ok : ∀ p ∈ drawnT, Dr p := by
  have h : ((drawnT.drop 7).all patB) = true := by decide +kernel
  intro p hp
  rw [← List.take_append_drop 7 drawnT] at hp
  rcases List.mem_append.mp hp with hp | hp
  · have e : drawnT.take 7 = [Str.ofString "", Str.ofString ".", Str.ofString "..", Str.ofString "..", Str.ofString "/", Str.ofString "//", Str.ofString "///"] := rfl
    rw [e] at hp
    simp only [List.mem_cons, List.not_mem_nil, or_false] at hp
    rcases hp with rfl | rfl | rfl | rfl | rfl | rfl | rfl
    · exact .sp .e (fun h => h.1.1 rfl) (by decide +kernel) (by decide +kernel)
    · exact .sp .d (fun h => h.1.2.1 rfl) (by decide +kernel) (by decide +kernel)
    · exact .sp .up (fun h => h.1.2.2 rfl) (by decide +kernel) (by decide +kernel)
    · exact .sp .up (fun h => h.1.2.2 rfl) (by decide +kernel) (by decide +kernel)
    · exact .sp .s1 (fun h => h.2 mem_s1) (by decide +kernel) (by decide +kernel)
    · exact .sp .s2 (fun h => h.2 mem_s2) (by decide +kernel) (by decide +kernel)
    · exact .sp .s3 (fun h => h.2 mem_s3) (by decide +kernel) (by decide +kernel)
  · exact dr_pat (List.all_eq_true.mp h p hp)
/-! rows of names -/
noncomputable def namesOf (p : Str) : List Str := if p == Str.ofString "." || p == Str.ofString ".." then [p] else (meantF p).getD []
noncomputable def rowStep (ns : List Str) (rows : List (List Str)) : List (List Str) := rows.flatMap fun row => ns.map fun n => row ++ [n]
noncomputable def prodStep (rows : List (List Str)) (p : Str) : List (List Str) := rowStep (namesOf p) rows
noncomputable def choices (k : List Str) : List (List Str) := k.foldl prodStep [[]]
noncomputable def dueRows (s : List Str) : List (List Str) := choices (s.drop 1)
noncomputable def dueU (s : List Str) : List Str := (dueRows s).map fun row => s.headD (Str.ofString "") ++ Txt.join (Str.ofString "/") row
noncomputable def takeStep (acc : List Str) (p : Str) : List Str := acc.flatMap fun pl => (namesOf p).map fun n => pjStep pl n
noncomputable def takenU (s : List Str) : List Str := (s.drop 1).foldl takeStep [s.headD (Str.ofString "")]
theorem choices_snoc (k : List Str) (p : Str) : choices (k ++ [p]) = rowStep (namesOf p) (choices k) := by unfold choices; rw [List.foldl_append]; rfl
theorem mem_row {ns : List Str} {rows : List (List Str)} {x : List Str} : x ∈ rowStep ns rows ↔ ∃ row ∈ rows, ∃ n ∈ ns, x = row ++ [n] := by
  unfold rowStep
  rw [List.mem_flatMap]
  constructor
  · rintro ⟨row, h1, h2⟩
    obtain ⟨n, h3, rfl⟩ := List.mem_map.mp h2
    exact ⟨row, h1, n, h3, rfl⟩
  · rintro ⟨row, h1, n, h3, rfl⟩
    exact ⟨row, h1, List.mem_map.mpr ⟨n, h3, rfl⟩⟩
theorem row_nodup {ns : List Str} (hn : ns.Nodup) {rows : List (List Str)} (hr : rows.Nodup) : (rowStep ns rows).Nodup := by
  unfold rowStep
  refine List.pairwise_flatMap.mpr ⟨fun row _ => ?_, ?_⟩
  · exact List.pairwise_map.mpr (List.Pairwise.imp (fun {a b} hab e => hab (by simpa using e)) hn)
  · refine List.Pairwise.imp (fun {a b} hab x hx y hy e => ?_) hr
    obtain ⟨n, _, rfl⟩ := List.mem_map.mp hx
    obtain ⟨m, _, rfl⟩ := List.mem_map.mp hy
    exact hab (List.append_inj' e rfl).1
theorem row_len (ns : List Str) : ∀ rows : List (List Str), (rowStep ns rows).length = rows.length * ns.length
  | [] => by simp [rowStep]
  | r :: rows => by
    show ((ns.map fun n => r ++ [n]) ++ rowStep ns rows).length = _
    rw [List.length_append, row_len ns rows, List.length_map, List.length_cons, Nat.add_mul, Nat.one_mul, Nat.add_comm]
theorem snoc_ind {P : List Str → Prop} (h0 : P []) (h1 : ∀ l p, P l → P (l ++ [p])) : ∀ l, P l := by
  have h : ∀ (n : Nat) l, l.length = n → P l := by
    intro n
    induction n with
    | zero => intro l hl; rw [List.eq_nil_of_length_eq_zero hl]; exact h0
    | succ n ih =>
      intro l hl
      have hne : l ≠ [] := by intro e; rw [e] at hl; cases hl
      rw [← List.dropLast_concat_getLast hne]
      exact h1 _ _ (ih _ (by simp [hl]))
  exact fun l => h _ l rfl
/-- patterns, each with its names -/
noncomputable abbrev Pats (k : List Str) : Prop := ∀ p ∈ k, part p ∧ Dr p
theorem pat_names {p : Str} (hp : part p) (h : Dr p) : ∃ ns, meantF p = some ns ∧ namesOf p = ns ∧ (∀ n ∈ ns, part n ∧ n.length ≤ 2) ∧ ns.Nodup ∧ ns.length ≤ 2 := by
  cases h with
  | sp _ hs _ _ => exact absurd hp hs
  | pat ns hm _ _ hn hd h2 =>
    refine ⟨ns, hm, ?_, hn, hd, h2⟩
    unfold namesOf
    rw [part_d hp, part_u hp, hm]; rfl
theorem choice_ok {k : List Str} (hk : Pats k) : (choices k).Nodup ∧ (∀ ch ∈ choices k, ch.length = k.length ∧ ∀ n ∈ ch, part n ∧ n.length ≤ 2) ∧ (choices k).length ≤ 2 ^ k.length := by
  induction k using snoc_ind with
  | h0 => exact ⟨by simp [choices], by simp [choices], by simp [choices]⟩
  | h1 l p ih =>
    obtain ⟨i1, i2, i3⟩ := ih fun q hq => hk q (List.mem_append.mpr (.inl hq))
    obtain ⟨hp, hd⟩ := hk p (by simp)
    obtain ⟨ns, hm, hn, hnp, hnd, hn2⟩ := pat_names hp hd
    rw [choices_snoc, hn]
    refine ⟨row_nodup hnd i1, fun ch hch => ?_, ?_⟩
    · obtain ⟨row, h1, n, h2, rfl⟩ := mem_row.mp hch
      refine ⟨by simp [(i2 row h1).1], fun m hm => ?_⟩
      rcases List.mem_append.mp hm with hm | hm
      · exact (i2 row h1).2 m hm
      · rw [List.mem_singleton.mp hm]; exact hnp n h2
    · rw [row_len, List.length_append]
      show _ ≤ 2 ^ (l.length + 1)
      rw [Nat.pow_succ]
      exact Nat.mul_le_mul i3 hn2
theorem prod_pre (pre : List Str) : ∀ (k : List Str) (rows : List (List Str)), k.foldl prodStep (rows.map (pre ++ ·)) = (k.foldl prodStep rows).map (pre ++ ·)
  | [], _ => rfl
  | p :: k, rows => by
    have e : prodStep (rows.map (pre ++ ·)) p = (prodStep rows p).map (pre ++ ·) := by
      unfold prodStep rowStep
      rw [List.flatMap_map, List.map_flatMap]
      congr 1
      funext row
      rw [List.map_map]
      congr 1
      funext n
      exact List.append_assoc _ _ _
    rw [List.foldl_cons, List.foldl_cons, e, prod_pre pre k]
theorem names_up : namesOf dd = [dd] := by decide +kernel
theorem prod_up : ∀ (u : Nat) (x : List Str), (List.replicate u dd).foldl prodStep [x] = [x ++ List.replicate u dd]
  | 0, x => by simp
  | u + 1, x => by
    rw [List.replicate_succ, List.foldl_cons, show prodStep [x] dd = [x ++ [dd]] by unfold prodStep; rw [names_up]; rfl, prod_up u, List.append_assoc]; rfl
theorem due_comps (u : Nat) (k : List Str) : (List.replicate u dd ++ k).foldl prodStep [[]] = (choices k).map (List.replicate u dd ++ ·) := by
  rw [List.foldl_append, prod_up]
  have h := prod_pre (List.replicate u dd) k [[]]
  rw [show [[]].map (List.replicate u dd ++ ·) = [[] ++ List.replicate u dd] by simp] at h
  exact h
noncomputable abbrev Pt.with (c : Pt) (ch : List Str) : Pt := ⟨c.r, c.u, ch⟩
theorem due_law {c : Pt} (hk : Pats c.k) : dueU (toL c) = (choices c.k).map fun ch => render (c.with ch) := by
  unfold dueU dueRows toL
  rw [show ∀ (a : Str) (l : List Str), (a :: l).headD (Str.ofString "") = a from fun _ _ => rfl, show ∀ (a : Str) (l : List Str), (a :: l).drop 1 = l from fun _ _ => rfl]
  have hlen := (choice_ok hk).2.1
  by_cases h0 : c.r.length = 0 ∧ c.comps = []
  · rw [if_pos h0]
    obtain ⟨hu, hk0⟩ := List.append_eq_nil_iff.mp h0.2
    rw [hk0]
    show (choices [Str.ofString "."]).map _ = [[]].map _
    rw [show choices [Str.ofString "."] = [[Str.ofString "."]] by decide +kernel]
    show [_] = [_]
    rw [eq_nil_of h0.1]
    show [Str.ofString "" ++ Txt.join (Str.ofString "/") [Str.ofString "."]] = [render (c.with [])]
    rw [nil_app, tjoin_sl]
    unfold render
    rw [if_pos ⟨h0.1, by unfold Pt.comps; rw [hu]; rfl⟩]
    rfl
  · rw [if_neg h0]
    show ((List.replicate c.u dd ++ c.k).foldl prodStep [[]]).map _ = _
    rw [due_comps, List.map_map]
    refine List.map_congr_left fun ch hch => ?_
    show c.r ++ Txt.join _ (List.replicate c.u dd ++ ch) = _
    unfold render
    rw [if_neg, tjoin_sl]
    · rfl
    · rintro ⟨h1, h2⟩
      refine h0 ⟨h1, ?_⟩
      obtain ⟨hu, hc⟩ := List.append_eq_nil_iff.mp h2
      have hc' : ch = [] := hc
      have := (hlen ch hch).1
      rw [hc'] at this
      unfold Pt.comps
      have hk0 : c.k = [] := List.eq_nil_of_length_eq_zero this.symm
      rw [hk0, List.append_nil]
      exact hu
theorem render_inj {c : Pt} (hg : Good c) (hk : Pats c.k) {a b : List Str} (ha : a ∈ choices c.k) (hb : b ∈ choices c.k) (e : render (c.with a) = render (c.with b)) : a = b := by
  have hl := (choice_ok hk).2.1
  have la := hl a ha
  have lb := hl b hb
  have hfree : ∀ x ∈ choices c.k, ∀ p ∈ (c.with x).comps, 47 ∉ cl p := fun x hx p hp => by
    have : Good (c.with x) := ⟨fun q hq => ((hl x hx).2 q hq).1, hg.2⟩
    exact (comps_part this p hp).2
  by_cases h0 : c.comps = []
  · obtain ⟨_, hk0⟩ := List.append_eq_nil_iff.mp h0
    rw [hk0] at la lb
    rw [List.eq_nil_of_length_eq_zero la.1, List.eq_nil_of_length_eq_zero lb.1]
  · have ne : ∀ x ∈ choices c.k, (c.with x).comps ≠ [] := fun x hx h => h0 (by
      obtain ⟨hu, hc⟩ := List.append_eq_nil_iff.mp h
      have hc' : x = [] := hc
      have := (hl x hx).1
      rw [hc'] at this
      unfold Pt.comps
      rw [List.eq_nil_of_length_eq_zero this.symm, List.append_nil]; exact hu)
    unfold render at e
    rw [if_neg fun h => ne a ha h.2, if_neg fun h => ne b hb h.2] at e
    have e1 := congrArg cl e
    rw [cl_app, cl_app] at e1
    have e2 := join_inj (ne a ha) (ne b hb) (hfree a ha) (hfree b hb) (cl_ext (List.append_cancel_left e1))
    exact List.append_cancel_left e2
theorem due_nodup {c : Pt} (hg : Good c) (hk : Pats c.k) : (dueU (toL c)).Nodup := by
  rw [due_law hk]
  refine List.pairwise_map.mpr (List.Pairwise.imp_of_mem (fun {a b} ha hb hab e => hab (render_inj hg hk ha hb e)) (choice_ok hk).1)
/-! taken from the pieces -/
theorem taken_rows (r : Str) : ∀ (l : List Str) (rows : List (List Str)), l.foldl takeStep (rows.map fun row => row.foldl pjStep r) = (l.foldl prodStep rows).map fun row => row.foldl pjStep r
  | [], _ => rfl
  | p :: l, rows => by
    have e : takeStep (rows.map fun row => row.foldl pjStep r) p = (prodStep rows p).map fun row => row.foldl pjStep r := by
      unfold takeStep prodStep rowStep
      rw [List.flatMap_map, List.map_flatMap]
      congr 1
      funext row
      rw [List.map_map]
      congr 1
      funext n
      show pjStep _ n = (row ++ [n]).foldl pjStep r
      rw [List.foldl_append]; rfl
    rw [List.foldl_cons, List.foldl_cons, e, taken_rows r l]
theorem fold_jf {r : Str} (hr : rootT r) (row : List Str) (h : ∀ p ∈ row, p.length ≠ 0 ∧ 47 ∉ cl p) : row.foldl pjStep r = r ++ Txt.join (Str.ofString "/") row := by
  have h1 : jf (r, row) = r ++ Txt.join (Str.ofString "/") row := by
    unfold jf
    dsimp only
    congr 1
    congr 1
    rcases List.eq_nil_or_concat row with hl | ⟨l', b, hl⟩
    · rw [hl]; rfl
    · rw [List.concat_eq_append] at hl
      rw [hl, List.dropLast_concat, show (l' ++ [b]).drop ((l' ++ [b]).length - 1) = [b] by simp, List.filter_eq_self.mpr]
      intro p hp
      have := (h p (by rw [hl]; simp [hp])).1
      simpa using fun e : p = Str.ofString "" => this (by rw [e]; rfl)
  rw [← h1]
  clear h1
  induction row using snoc_ind with
  | h0 => show r = jf (r, []); unfold jf; rw [tjoin_sl]; exact (app_nil r).symm
  | h1 l p ih =>
    have hl : ∀ q ∈ l, q.length ≠ 0 ∧ 47 ∉ cl q := fun q hq => h q (List.mem_append.mpr (.inl hq))
    rw [List.foldl_append, ih hl]
    exact (jf_pj (c := (r, l)) hr (fun q hq => (hl q hq).2) (h p (by simp)).2).symm
theorem good_root {c : Pt} (h : Good c) : rootT c.r := by
  rcases h.2 with h | ⟨_, h | h⟩
  · exact .inl h
  · exact .inr (by rw [h]; decide +kernel)
  · exact .inr (by rw [h]; decide +kernel)
theorem due_parts {c : Pt} (hk : Pats c.k) : ∀ row ∈ dueRows (toL c), ∀ p ∈ row, p.length ≠ 0 ∧ 47 ∉ cl p := by
  unfold dueRows toL
  rw [show ∀ (a : Str) (l : List Str), (a :: l).drop 1 = l from fun _ _ => rfl]
  intro row hrow p hp
  split at hrow
  · rw [show choices [Str.ofString "."] = [[Str.ofString "."]] by decide +kernel] at hrow
    rw [List.mem_singleton.mp hrow] at hp
    rw [List.mem_singleton.mp hp]
    exact ⟨by decide +kernel, by decide +kernel⟩
  · have e : choices c.comps = (choices c.k).map (List.replicate c.u dd ++ ·) := due_comps c.u c.k
    rw [e] at hrow
    obtain ⟨ch, hch, rfl⟩ := List.mem_map.mp hrow
    rcases List.mem_append.mp hp with hp | hp
    · rw [(List.mem_replicate.mp hp).2]; exact ⟨by decide +kernel, by decide +kernel⟩
    · have := ((choice_ok hk).2.1 ch hch).2 p hp
      exact ⟨this.1.1.1, this.1.2⟩
theorem taken_law {c : Pt} (hg : Good c) (hk : Pats c.k) : takenU (toL c) = dueU (toL c) := by
  unfold takenU
  have h := taken_rows c.r ((toL c).drop 1) [[]]
  have e : (toL c).headD (Str.ofString "") = c.r := rfl
  rw [e]
  refine h.trans ?_
  unfold dueU
  rw [e]
  exact List.map_congr_left fun row hrow => fold_jf (good_root hg) row (due_parts hk row hrow)
/-! sorted lists -/
theorem sorted_pw : ∀ (l : List Str), sortedS l = true → l.Pairwise fun a b => PySem.Spec.ltCps b.cps.toList a.cps.toList = false := by
  have trans : ∀ {a b c : Str}, PySem.Spec.ltCps b.cps.toList a.cps.toList = false → PySem.Spec.ltCps c.cps.toList b.cps.toList = false → PySem.Spec.ltCps c.cps.toList a.cps.toList = false := by
    intro a b c h1 h2
    rw [PyProof.Rows.ltCps_eq] at *
    have h1' := List.not_lt.mp (of_decide_eq_false h1)
    have h2' := List.not_lt.mp (of_decide_eq_false h2)
    exact decide_eq_false (List.not_lt.mpr (List.le_trans h1' h2'))
  have h : ∀ (l : List Str) (p : Str), risingS p l = true → (p :: l).Pairwise fun a b => PySem.Spec.ltCps b.cps.toList a.cps.toList = false := by
    intro l
    induction l with
    | nil => intro p _; simp
    | cons x r ih =>
      intro p hp
      have hp' : (!PySem.Spec.ltCps x.cps.toList p.cps.toList && risingS x r) = true := hp
      rw [Bool.and_eq_true, Bool.not_eq_true'] at hp'
      have hr := ih x hp'.2
      refine List.pairwise_cons.mpr ⟨fun y hy => ?_, hr⟩
      rcases List.mem_cons.mp hy with rfl | hy
      · exact hp'.1
      · exact trans hp'.1 ((List.pairwise_cons.mp hr).1 y hy)
  intro l hl
  cases l with
  | nil => exact .nil
  | cons x r => exact h r x hl
theorem sorted_uniq {a b : List Str} (ha : sortedS a = true) (hb : sortedS b = true) (h : a.Perm b) : a = b := by
  refine List.Perm.eq_of_pairwise (fun x y _ _ h1 h2 => ?_) (sorted_pw a ha) (sorted_pw b hb) h
  rw [PyProof.Rows.ltCps_eq] at h1 h2
  exact cl_ext (List.le_antisymm (List.not_lt.mp (of_decide_eq_false h1)) (List.not_lt.mp (of_decide_eq_false h2)))
end

section
open PySem PySem.W PyProof.Rows PySem.Calls PySem.Builtin PySem.Builtin.Str
/-! law 01: the places that the walk comes to -/
noncomputable def addNew (found : List Str) (x : Str) : List Str := if found.contains x then found else found ++ [x]
noncomputable def stepsOf (p : Str) : List Str := match meantF p with
  | none => [p]
  | some ns => ns
noncomputable def plTurn (steps : List Str) (found : List Str) (pl : Str) : List Str := steps.foldl (fun f st => addNew f (npath (pjStep pl st))) found
noncomputable def plStep (places : List Str) (p : Str) : List Str := places.foldl (plTurn (stepsOf p)) []
noncomputable def placesF (l : List Str) : List Str := l.foldl plStep [Str.ofString "."]
theorem add_mem {f : List Str} {x z : Str} : z ∈ addNew f x ↔ z ∈ f ∨ z = x := by
  unfold addNew
  split
  · rename_i h
    have h' : x ∈ f := by simpa using h
    exact ⟨.inl, fun h => h.elim id fun e => e ▸ h'⟩
  · rw [List.mem_append, List.mem_singleton]
theorem add_nodup {f : List Str} {x : Str} (h : f.Nodup) : (addNew f x).Nodup := by
  unfold addNew
  split
  · exact h
  · rename_i h'
    have h' : x ∉ f := by simpa using h'
    exact List.nodup_append.mpr ⟨h, by simp, fun a ha b hb e => h' (by rw [← List.mem_singleton.mp hb, ← e]; exact ha)⟩
theorem add_len (f : List Str) (x : Str) : (addNew f x).length ≤ f.length + 1 := by
  unfold addNew
  split <;> simp
theorem turn_mem {pl : Str} : ∀ {steps found : List Str} {z : Str}, z ∈ plTurn steps found pl ↔ z ∈ found ∨ ∃ st ∈ steps, z = npath (pjStep pl st)
  | [], found, z => by simp [plTurn]
  | st :: steps, found, z => by
    show z ∈ plTurn steps (addNew found _) pl ↔ _
    rw [turn_mem, add_mem]
    simp only [List.mem_cons, exists_eq_or_imp]
    exact or_assoc
theorem turn_nodup {pl : Str} : ∀ {steps found : List Str}, found.Nodup → (plTurn steps found pl).Nodup
  | [], _, h => h
  | st :: steps, found, h => turn_nodup (steps := steps) (add_nodup h)
theorem turn_len {pl : Str} : ∀ (steps found : List Str), (plTurn steps found pl).length ≤ found.length + steps.length
  | [], _ => Nat.le_refl _
  | st :: steps, found => by
    show (plTurn steps (addNew found _) pl).length ≤ _
    have h1 := turn_len (pl := pl) steps (addNew found (npath (pjStep pl st)))
    have h2 := add_len found (npath (pjStep pl st))
    rw [List.length_cons]; lia
theorem turns_mem {steps : List Str} : ∀ {places found : List Str} {z : Str}, z ∈ places.foldl (plTurn steps) found ↔ z ∈ found ∨ ∃ pl ∈ places, ∃ st ∈ steps, z = npath (pjStep pl st)
  | [], found, z => by simp
  | pl :: places, found, z => by
    rw [List.foldl_cons, turns_mem, turn_mem]
    simp only [List.mem_cons, exists_eq_or_imp]
    exact or_assoc
theorem turns_nodup {steps : List Str} : ∀ {places found : List Str}, found.Nodup → (places.foldl (plTurn steps) found).Nodup
  | [], _, h => h
  | pl :: places, found, h => turns_nodup (places := places) (turn_nodup h)
theorem turns_len {steps : List Str} : ∀ (places found : List Str), (places.foldl (plTurn steps) found).length ≤ found.length + places.length * steps.length
  | [], _ => by simp
  | pl :: places, found => by
    rw [List.foldl_cons]
    have h1 := turns_len (steps := steps) places (plTurn steps found pl)
    have h2 := turn_len (pl := pl) steps found
    rw [List.length_cons, Nat.add_mul]; lia
theorem step_mem {places : List Str} {p z : Str} : z ∈ plStep places p ↔ ∃ pl ∈ places, ∃ st ∈ stepsOf p, z = npath (pjStep pl st) := by
  unfold plStep
  rw [turns_mem]
  simp
/-- does some piece take no name -/
noncomputable def bad (l : List Str) : Bool := l.any fun p => meantF p == some []
theorem bad_snoc (l : List Str) (p : Str) : bad (l ++ [p]) = (bad l || meantF p == some []) := by unfold bad; rw [List.any_append]; simp
structure PlOk (l places : List Str) : Prop where
  nd : places.Nodup
  gd : Good (l.foldl ptStep pt0)
  pt : Pats (l.foldl ptStep pt0).k
  ne : bad l = false → ∀ p ∈ (l.foldl ptStep pt0).k, namesOf p ≠ []
  b1 : bad l = true → places = []
  b0 : bad l = false → ∀ z, z ∈ places ↔ ∃ ch ∈ choices (l.foldl ptStep pt0).k, z = render ((l.foldl ptStep pt0).with ch)
theorem good_with {c : Pt} (hg : Good c) (hk : Pats c.k) {ch : List Str} (h : ch ∈ choices c.k) : Good (c.with ch) := ⟨fun q hq => (((choice_ok hk).2.1 ch h).2 q hq).1, hg.2⟩
theorem choice_ne : ∀ {k : List Str}, (∀ p ∈ k, namesOf p ≠ []) → ∃ ch, ch ∈ choices k := by
  intro k
  induction k using snoc_ind with
  | h0 => intro _; exact ⟨[], by simp [choices]⟩
  | h1 l p ih =>
    intro h
    obtain ⟨ch, hch⟩ := ih fun q hq => h q (List.mem_append.mpr (.inl hq))
    obtain ⟨n, hn⟩ := List.exists_mem_of_ne_nil _ (h p (by simp))
    exact ⟨ch ++ [n], by rw [choices_snoc]; exact mem_row.mpr ⟨ch, hch, n, hn, rfl⟩⟩
/-- a piece that is no pattern turns every choice alike -/
theorem sp_choice {c : Pt} {p : Str} (hk : Kd p) (hs : ¬ part p) (hne : ∀ q ∈ c.k, namesOf q ≠ []) (z : Str) :
    (∃ ch ∈ choices c.k, z = render (ptStep (c.with ch) p)) ↔ ∃ ch ∈ choices (ptStep c p).k, z = render ((ptStep c p).with ch) := by
  have root : ∀ r, (∃ ch ∈ choices c.k, z = render ⟨r, 0, []⟩) ↔ ∃ ch ∈ choices ([] : List Str), z = render ((⟨r, 0, []⟩ : Pt).with ch) := by
    intro r
    obtain ⟨ch, hch⟩ := choice_ne hne
    constructor
    · rintro ⟨_, _, e⟩; exact ⟨[], by simp [choices], e⟩
    · rintro ⟨ch', h', e⟩
      have : ch' = [] := by simpa [choices] using h'
      subst this
      exact ⟨ch, hch, e⟩
  cases hk with
  | e => simp only [pt_e]
  | d => simp only [pt_d]
  | s1 => simp only [pt_s1]; exact root _
  | s2 => simp only [pt_s2]; exact root _
  | s3 => simp only [pt_s3]; exact root _
  | nm h => exact absurd h hs
  | up =>
    simp only [pt_up]
    obtain ⟨r, u, k⟩ := c
    rcases List.eq_nil_or_concat k with hc | ⟨k', x, hc⟩
    · subst hc
      have e0 : choices ([] : List Str) = [[]] := rfl
      by_cases hr : r.length = 0
      · rw [show (Pt.mk r u []).pop = ⟨r, u + 1, []⟩ by unfold Pt.pop; rw [if_pos (by rfl), if_pos hr]]
        dsimp only
        rw [e0]
        simp only [List.mem_singleton, exists_eq_left]
        rw [show (Pt.mk r u []).pop = ⟨r, u + 1, []⟩ by unfold Pt.pop; rw [if_pos (by rfl), if_pos hr]]
      · rw [show (Pt.mk r u []).pop = ⟨r, u, []⟩ by unfold Pt.pop; rw [if_pos (by rfl), if_neg hr]]
        dsimp only
        rw [e0]
        simp only [List.mem_singleton, exists_eq_left]
        rw [show (Pt.mk r u []).pop = ⟨r, u, []⟩ by unfold Pt.pop; rw [if_pos (by rfl), if_neg hr]]
    · rw [List.concat_eq_append] at hc
      subst hc
      have pop : ∀ (k' : List Str) x, (Pt.mk r u (k' ++ [x])).pop = ⟨r, u, k'⟩ := fun k' x => by unfold Pt.pop; rw [if_neg (by simp)]; simp
      rw [pop]
      dsimp only
      rw [choices_snoc]
      obtain ⟨n, hn⟩ := List.exists_mem_of_ne_nil _ (hne x (by simp))
      constructor
      · rintro ⟨ch, hch, e⟩
        obtain ⟨row, h1, m, _, rfl⟩ := mem_row.mp hch
        exact ⟨row, h1, by rw [e, pop]⟩
      · rintro ⟨ch, hch, e⟩
        exact ⟨ch ++ [n], mem_row.mpr ⟨ch, hch, n, hn, rfl⟩, by rw [e, pop]⟩
theorem sp_sub {c : Pt} {p : Str} (hk : Kd p) (hs : ¬ part p) : ∀ q ∈ (ptStep c p).k, q ∈ c.k := by
  cases hk with
  | e => rw [pt_e]; exact fun _ h => h
  | d => rw [pt_d]; exact fun _ h => h
  | s1 => rw [pt_s1]; exact fun _ h => (nomatch h)
  | s2 => rw [pt_s2]; exact fun _ h => (nomatch h)
  | s3 => rw [pt_s3]; exact fun _ h => (nomatch h)
  | nm h => exact absurd h hs
  | up =>
    rw [pt_up]
    unfold Pt.pop
    split
    · split <;> exact fun _ h => h
    · exact fun q hq => (List.dropLast_sublist _).subset hq
theorem pl_ok {l : List Str} (hl : ∀ p ∈ l, Dr p) : PlOk l (placesF l) := by
  induction l using snoc_ind with
  | h0 => exact ⟨by simp [placesF], good_0, fun _ h => (nomatch h), fun _ _ h => (nomatch h), (fun h => by cases h), fun _ z => by
      show z ∈ [Str.ofString "."] ↔ ∃ ch ∈ [[]], z = render (pt0.with ch)
      simp only [List.mem_singleton, exists_eq_left]
      rw [show render (pt0.with []) = Str.ofString "." by decide +kernel]⟩
  | h1 l p ih =>
    have ih := ih fun q hq => hl q (List.mem_append.mpr (.inl hq))
    have hp : Dr p := hl p (by simp)
    have e1 : placesF (l ++ [p]) = plStep (placesF l) p := by unfold placesF; rw [List.foldl_append]; rfl
    have e2 : (l ++ [p]).foldl ptStep pt0 = ptStep (l.foldl ptStep pt0) p := by rw [List.foldl_append]; rfl
    obtain ⟨nd, gd, pt, ne, b1, b0⟩ := ih
    rw [e1]
    refine ⟨turns_nodup List.nodup_nil, ?_, ?_, ?_, ?_, ?_⟩ <;> (try rw [e2]) <;> (try rw [bad_snoc])
    · exact good_step gd hp.kd
    · cases hp with
      | sp hk hs _ _ => exact fun q hq => pt q (sp_sub hk hs q hq)
      | pat ns hm hpp h8 hn hnd h2 =>
        rw [pt_nm _ hpp]
        intro q hq
        rcases List.mem_append.mp hq with hq | hq
        · exact pt q hq
        · rw [List.mem_singleton.mp hq]; exact ⟨hpp, .pat ns hm hpp h8 hn hnd h2⟩
    · intro hb
      rw [Bool.or_eq_false_iff] at hb
      cases hp with
      | sp hk hs _ _ => exact fun q hq => ne hb.1 q (sp_sub hk hs q hq)
      | pat ns hm hpp h8 hn hnd h2 =>
        rw [pt_nm _ hpp]
        intro q hq
        rcases List.mem_append.mp hq with hq | hq
        · exact ne hb.1 q hq
        · rw [List.mem_singleton.mp hq]
          unfold namesOf
          rw [part_d hpp, part_u hpp, hm]
          intro e
          have e' : ns = [] := e
          rw [hm, e'] at hb
          exact absurd hb.2 (by simp)
    · intro hb
      rw [Bool.or_eq_true] at hb
      rcases hb with hb | hb
      · rw [b1 hb]; rfl
      · refine List.eq_nil_iff_forall_not_mem.mpr fun z hz => ?_
        obtain ⟨_, _, st, hst, _⟩ := step_mem.mp hz
        unfold stepsOf at hst
        rw [eq_of_beq hb] at hst
        cases hst
    · intro hb z
      rw [Bool.or_eq_false_iff] at hb
      rw [step_mem]
      have h0 := b0 hb.1
      cases hp with
      | sp hk hs hm _ =>
        have es : stepsOf p = [p] := by unfold stepsOf; rw [hm]
        rw [es, ← sp_choice hk hs (ne hb.1) z]
        constructor
        · rintro ⟨pl, hpl, st, hst, e⟩
          obtain ⟨ch, hch, rfl⟩ := (h0 pl).mp hpl
          rw [List.mem_singleton.mp hst, walk_step (good_with gd pt hch) hk] at e
          exact ⟨ch, hch, e⟩
        · rintro ⟨ch, hch, e⟩
          exact ⟨_, (h0 _).mpr ⟨ch, hch, rfl⟩, p, by simp, by rw [walk_step (good_with gd pt hch) hk]; exact e⟩
      | pat ns hm hpp h8 hn hnd h2 =>
        have es : stepsOf p = ns := by unfold stepsOf; rw [hm]
        have en : namesOf p = ns := by unfold namesOf; rw [part_d hpp, part_u hpp, hm]; rfl
        rw [es, pt_nm _ hpp]
        dsimp only
        rw [choices_snoc, en]
        constructor
        · rintro ⟨pl, hpl, st, hst, e⟩
          obtain ⟨ch, hch, rfl⟩ := (h0 pl).mp hpl
          rw [walk_step (good_with gd pt hch) (.nm (hn st hst).1), pt_nm _ (hn st hst).1] at e
          exact ⟨ch ++ [st], mem_row.mpr ⟨ch, hch, st, hst, rfl⟩, e⟩
        · rintro ⟨ch, hch, e⟩
          obtain ⟨row, h1, n, hnn, rfl⟩ := mem_row.mp hch
          refine ⟨_, (h0 _).mpr ⟨row, h1, rfl⟩, n, hnn, ?_⟩
          rw [walk_step (good_with gd pt h1) (.nm (hn n hnn).1), pt_nm _ (hn n hnn).1]
          exact e
/-! sizes -/
theorem stepsOf_len {p : Str} (h : Dr p) : (stepsOf p).length ≤ 2 := by
  unfold stepsOf
  cases h with
  | sp _ _ hm _ => rw [hm]; exact Nat.le_succ _
  | pat ns hm _ _ _ _ h2 => rw [hm]; exact h2
theorem stepsOf_sz {p : Str} (h : Dr p) : ∀ s ∈ stepsOf p, s.length ≤ 8 := by
  unfold stepsOf
  cases h with
  | sp _ _ hm hl => rw [hm]; intro s hs; rw [List.mem_singleton.mp hs]; exact hl
  | pat ns hm _ _ hn _ _ => rw [hm]; exact fun s hs => Nat.le_trans (hn s hs).2 (by decide)
theorem places_len {l : List Str} (hl : ∀ p ∈ l, Dr p) : (placesF l).length ≤ 2 ^ l.length := by
  induction l using snoc_ind with
  | h0 => exact Nat.le_refl _
  | h1 l p ih =>
    have ih := ih fun q hq => hl q (List.mem_append.mpr (.inl hq))
    have e1 : placesF (l ++ [p]) = plStep (placesF l) p := by unfold placesF; rw [List.foldl_append]; rfl
    rw [e1, List.length_append]
    have h := turns_len (steps := stepsOf p) (placesF l) []
    have h2 := stepsOf_len (hl p (by simp))
    show _ ≤ 2 ^ (l.length + 1)
    rw [Nat.pow_succ]
    refine Nat.le_trans h ?_
    rw [List.length_nil, Nat.zero_add]
    exact Nat.mul_le_mul ih h2
theorem jlen {l : List Str} {B : Nat} (h : ∀ p ∈ l, p.length ≤ B) : (Str.join ⟨#[47]⟩ l).length ≤ l.length * (B + 1) := by
  induction l with
  | nil => exact Nat.zero_le _
  | cons a l ih =>
    have ha := h a (.head _)
    have ih := ih fun p hp => h p (.tail _ hp)
    rw [List.length_cons, Nat.add_mul]
    cases l with
    | nil => show a.length ≤ _; lia
    | cons b l =>
      rw [join_cons2, len_app, len_app, show (Str.mk #[47]).length = 1 from rfl]
      lia
theorem comps_len : ∀ {l : List Str} {c : Pt}, (∀ p ∈ l, Kd p) → (l.foldl ptStep c).comps.length ≤ c.comps.length + l.length
  | [], _, _ => Nat.le_refl _
  | p :: l, c, hl => by
    have h1 := comps_len (l := l) (c := ptStep c p) fun q hq => hl q (.tail _ hq)
    have h2 : (ptStep c p).comps.length ≤ c.comps.length + 1 := by
      cases hl p (.head _) with
      | e => rw [pt_e]; exact Nat.le_succ _
      | d => rw [pt_d]; exact Nat.le_succ _
      | s1 => rw [pt_s1]; exact Nat.zero_le _
      | s2 => rw [pt_s2]; exact Nat.zero_le _
      | s3 => rw [pt_s3]; exact Nat.zero_le _
      | nm h => rw [pt_nm _ h]; simp [Pt.comps]; lia
      | up =>
        rw [pt_up]
        unfold Pt.pop
        split
        · split
          · simp [Pt.comps]; lia
          · exact Nat.le_succ _
        · simp [Pt.comps]; lia
    rw [List.foldl_cons, List.length_cons]; lia
theorem render_len {c : Pt} (hg : Good c) {B : Nat} (h : ∀ p ∈ c.k, p.length ≤ B) (h2 : 2 ≤ B) : (render c).length ≤ 2 + c.comps.length * (B + 1) := by
  unfold render
  split
  · rw [show (Str.ofString ".").length = 1 from rfl]; lia
  · rw [len_app]
    have hr : c.r.length ≤ 2 := by
      rcases hg.2 with h | ⟨_, h | h⟩ <;> rw [h] <;> decide +kernel
    have := jlen (l := c.comps) (B := B) fun p hp => by
      rcases List.mem_append.mp hp with hp | hp
      · rw [(List.mem_replicate.mp hp).2]; exact h2
      · exact h p hp
    lia
theorem places_sz {l : List Str} (hl : ∀ p ∈ l, Dr p) : ∀ z ∈ placesF l, z.length ≤ 2 + l.length * 3 := by
  have ok := pl_ok hl
  intro z hz
  cases hb : bad l with
  | true => rw [ok.b1 hb] at hz; cases hz
  | false =>
    obtain ⟨ch, hch, rfl⟩ := (ok.b0 hb z).mp hz
    have hc := (choice_ok ok.pt).2.1 ch hch
    have h1 := render_len (c := (l.foldl ptStep pt0).with ch) (good_with ok.gd ok.pt hch) (B := 2) (fun p hp => (hc.2 p hp).2) (Nat.le_refl _)
    have h2 := comps_len (l := l) (c := pt0) fun p hp => (hl p hp).kd
    have h3 : ((l.foldl ptStep pt0).with ch).comps.length = (l.foldl ptStep pt0).comps.length := by simp [Pt.comps, hc.1]
    rw [h3] at h1
    have h4 : pt0.comps.length = 0 := rfl
    have h5 := Nat.mul_le_mul_right 3 (Nat.le_trans h2 (by rw [h4, Nat.zero_add]; exact Nat.le_refl _))
    lia
/-! the law -/
theorem places_law {l : List Str} (hl : ∀ p ∈ l, Dr p) {sp sd : List Str} (h1 : sp.Perm (placesF l)) (h2 : sortedS sp = true) (h3 : sd.Perm (dueU (straightF l))) (h4 : sortedS sd = true) : sp = if bad l then [] else sd := by
  have ok := pl_ok hl
  have hkd : ∀ p ∈ l, Kd p := fun p hp => (hl p hp).kd
  cases hb : bad l with
  | true =>
    rw [ok.b1 hb] at h1
    simpa using h1
  | false =>
    refine sorted_uniq h2 h4 (h1.trans (List.Perm.trans ?_ h3.symm))
    rw [straight_law hkd]
    refine (List.perm_ext_iff_of_nodup ok.nd (due_nodup ok.gd ok.pt)).mpr fun z => ?_
    rw [ok.b0 hb, due_law ok.pt, List.mem_map]
    constructor
    · rintro ⟨ch, h, rfl⟩; exact ⟨ch, h, rfl⟩
    · rintro ⟨ch, h, rfl⟩; exact ⟨ch, h, rfl⟩
end

section
open PySem PySem.W PyProof.Rows PySem.Calls
theorem mw_M2_0 : True := by
  k_with_none
  trivial
theorem mw_M2_1 : True := by
  (k_with "Mdrop" => first | assumption | (refine' cb_drop ?cbN ?cbS; (case cbN => assumption); (case cbS => kcj_all)))
  trivial
theorem mw_M2_2 : True := by
  (k_with "exec For Name Subscript cons nil" => (k_here; refine stuck_at ?_))
  (k_with "pyIter ref" => (refine stuck_at ?_))
  (k_with "Mlist" => k_dflt (first | exact News.isList (by k_asm) (by assumption) | exact News.isList (by k_asm) (.tail _ (by assumption)) | exact News.isList (by k_asm) (.tail _ (.tail _ (by assumption))) | exact News.isList (by k_asm) (.tail _ (.tail _ (.tail _ (by assumption))))))
  (k_with "subscriptTail Name Slice ref ref" => (k_here; (with_reducible show wpAny _ _ (subscriptTail _ (PySem.Expr.Slice none none (some _) _) (Value.ref _) (Value.ref _)) _ _ _); k_dflt (refine' krv_lit ?F ?N ?l ?k rfl ?_ ?s ?t ?z; (case F => k_asm); (case N => k_asm); (case l => walk_at "Mlist"); (case k => exact IsPart.int _ _); (case s => with_unfolding_all rfl); (case t => kmk_pure); (case z => (rw [List.size_toArray, sizeLine_eq]; omega))); intro _ _ _ _ l1; (try k_lt l1)))
  (k_with "binaryOp Mult ref int" => ((try dsimp only); k_here; k_dflt (refine' KMa.mul (vs := [_]) ?u1 ?u2 ?u3 ?u4 ?u5 ?u6 (hrp _) ?_; (case u1 => k_asm); (case u2 => k_asm); (case u3 => exact lst_at (by assumption) (List.Mem.head _)); (case u4 => omega); (case u5 => omega); (case u6 => (simp only [List.length_singleton, Int.toNat_natCast]; omega)); k_whole); intro _ _ _ _ l1; (try k_lt l1)))
  (k_with "binaryOp Add ref ref" => (k_here; (with_reducible show wpAny _ _ (binaryOp _ (Value.ref _) (Value.ref _)) _ _ _); k_dflt (refine' add_vals ?k1 ?k2 ?k3 ?k4 ?k5 ?_; (case k1 => k_asm); (case k2 => k_asm); (case k3 => k_mem); (case k4 => k_mem); (case k5 => (simp only [List.length_cons, List.length_nil, List.length_replicate, List.length_append]; omega)); k_whole); intro _ _ _ _ l1; (try k_lt l1)))
  trivial
theorem strs_rev {vs : List Value} {ys : List Str} (h : StrsAre vs ys) : StrsAre vs.reverse ys.reverse := by
  induction h with
  | nil => exact .nil
  | cons y t r ih =>
    rw [List.reverse_cons, List.reverse_cons]
    exact strs_snoc ih
theorem lt_left {D : Addr} {news own : List (Addr × Obj)} (h : AllLt D (news ++ own)) : AllLt D news := allLt_of fun p hp => ktn_ltOf h p (List.mem_append.mpr (.inl hp))
theorem st_root {y : Str} {r kept : List Str} {debt : Nat} (h : (Txt.slice y none (some 1) == Str.ofString "/") = true) : stGo (y :: r) kept debt = (if (y == Str.ofString "//") = true then Str.ofString "//" else Str.ofString "/") :: kept := by
  unfold stGo; rw [if_pos h]
theorem st_up {y : Str} {r kept : List Str} {debt : Nat} (h : (Txt.slice y none (some 1) == Str.ofString "/") = false) (h2 : (y == Str.ofString "..") = true) : stGo (y :: r) kept debt = stGo r kept (debt + 1) := by
  rw [stGo, if_neg (by rw [h]; exact Bool.false_ne_true), if_pos h2]
theorem st_pay {y : Str} {r kept : List Str} {debt : Nat} (h : (Txt.slice y none (some 1) == Str.ofString "/") = false) (h2 : (y == Str.ofString "..") = false) (h3 : ownNm y = true) (h4 : 0 < debt) : stGo (y :: r) kept debt = stGo r kept (debt - 1) := by
  rw [stGo, if_neg (by rw [h]; exact Bool.false_ne_true), if_neg (by rw [h2]; exact Bool.false_ne_true), if_pos (by rw [h3]; simpa using h4)]
theorem st_push {y : Str} {r kept : List Str} {debt : Nat} (h : (Txt.slice y none (some 1) == Str.ofString "/") = false) (h2 : (y == Str.ofString "..") = false) (h3 : ownNm y = true) (h4 : ¬ 0 < debt) : stGo (y :: r) kept debt = stGo r (y :: kept) debt := by
  rw [stGo, if_neg (by rw [h]; exact Bool.false_ne_true), if_neg (by rw [h2]; exact Bool.false_ne_true), if_neg (by rw [h3]; simpa using h4), if_pos h3]
theorem st_skip {y : Str} {r kept : List Str} {debt : Nat} (h : (Txt.slice y none (some 1) == Str.ofString "/") = false) (h2 : (y == Str.ofString "..") = false) (h3 : ownNm y = false) : stGo (y :: r) kept debt = stGo r kept debt := by
  rw [stGo, if_neg (by rw [h]; exact Bool.false_ne_true), if_neg (by rw [h2]; exact Bool.false_ne_true), h3]; rfl
theorem own_any (y : Str) : (([Str.ofString "", Str.ofString "."] : List Str).any fun x => x == y) = !ownNm y := by
  unfold ownNm
  rw [Bool.not_not, BEq.comm (a := y), BEq.comm (a := y)]
  show (_ || (_ || false)) = _
  rw [Bool.or_false]
theorem mw_M2_3 : True := by
  (k_with "Mnews" => k_dflt (repeat (first | assumption | exact List.mem_append_left _ (by assumption) | exact List.mem_append_right _ (by assumption) | refine List.Mem.tail _ ?_)))
  (k_with "Msub" => k_dflt ((try dsimp only); refine List.forall_mem_cons.mpr ⟨by k_mem, List.forall_mem_cons.mpr ⟨by k_mem, fun p hp => ?_⟩⟩; walk_at "Mnews"))
  (k_with "Mhr" => k_dflt (intro z hz h2 h3; (have e1 := h2 _ (.head _)); (have e2 := h2 _ (.tail _ (.head _))); dsimp only at e1 e2; ((try dsimp only [kstB]); repeat (first | rfl | (refine (if_neg (by first | exact hz | exact e1 | exact e2)).trans ?_)))))
  trivial
theorem dec_val {d : Nat} (h : 0 < d) (t : Tok) : some (Value.int ((d : Int) - 1) t) = some (Value.int ((d - 1 : Nat) : Int) t) := by
  rw [Int.ofNat_sub h]; rfl
theorem strs_rep {y : Str} {t : Tok} {vs : List Value} {ys : List Str} (h : StrsAre vs ys) : ∀ n, StrsAre (List.replicate n (Value.str y t) ++ vs) (List.replicate n y ++ ys)
  | 0 => h
  | n + 1 => by rw [List.replicate_succ, List.replicate_succ]; exact .cons _ _ (strs_rep h n)
theorem mw_M2_4 : True := by
  (k_with "truthy ref" => (k_here; k_dflt (refine' tru_strs ?k1 ?k2 (strs_rep (by assumption) _) ?k4 ?_; (case k1 => k_asm); (case k2 => k_mem); (case k4 => (simp only [List.length_replicate, List.length_append]; omega)); k_whole)))
  trivial
structure StC where
  kept : List Str
  kv : List Value
  K : Addr
  n : Nat
  debt : Nat
  td : Tok
/-- a fresh list of texts -/
noncomputable def LisO (news : List (Addr × Obj)) (l : List Str) (n : List (Addr × Obj)) (r : Value) : Prop := ∃ D vs k, r = .ref D ∧ n = (D, listOf vs.toArray k) :: news ∧ StrsAre vs l ∧ AllLt D news
theorem straight_does (w : World) (mean : ExcName → Option Value) (mg mb : Str → Option Value) (news : List (Addr × Obj)) (P0 : Addr) (pv : List Value) (pk : Nat) (parts : List Str) (hS : StrsAre pv parts) (hm : (P0, listOf pv.toArray pk) ∈ news) (hn : parts.length ≤ 200) (hb : ∀ p ∈ parts, p.length ≤ 100000) :
  Does PySem.Challenge.rw_rx0110_01.row.prog w (hd.heap_39 w.params) topProg (looseW hd.view_39 [Str.ofString "_twin_re_1", Str.ofString "_special_chars_map"] ++ (recsOf hd.view_39).map (fun x => x.name) ++ (litsOf hd.view_39).map (fun x => x.1) ++ (clssOf hd.view_39 (looseW hd.view_39 [Str.ofString "_twin_re_1", Str.ofString "_special_chars_map"])).map (fun x => x.name)) mean mg mb 201 1 news [Value.ref P0] (LisO news (straightF parts)) := by
  k_fill
  unfold Does
  intro dp un gd cn cs a ccd cl outer A₀ base h₀ L m s Q E B F X N T hk hd hu hret
  refine wpAny_call ?_
  (k_dflt cell_enter)
  k_steps
  rename_i g1 L1 h0 FG1 B1 X1 T1 K0 h2 l2 h3 h4 F1 N1
  have hpl : pv.length ≤ 1000 := by rw [hS.len_eq]; omega
  unfold Stuck
  refine For_invVF F1 rfl rfl ?_
  (k_unmd)
  k_steps
  rename_i D1 h5 F2 N2
  unfold Stuck
  have hpr : pv.toArray.toList.reverse = pv.reverse := by simp
  rw [hpr] at N2
  refine loop_st (σ := StC) (fun c => (D1, listOf pv.reverse.toArray 0) :: (c.K, listOf c.kv.toArray c.n) :: news) (fun c => [(Str.ofString "kept", .ref c.K), (Str.ofString "debt", .int (c.debt : Int) c.td)]) []
    (fun i c => StrsAre c.kv c.kept ∧ stGo (parts.reverse.drop i) c.kept c.debt = straightF parts ∧ c.kept.length ≤ i ∧ c.debt ≤ i) ⟨[], [], K0, 0, 0, _⟩ rfl (fun i c _ => .head _) F2 N2
    (List.forall_mem_cons.mpr ⟨rfl, List.forall_mem_cons.mpr ⟨rfl, fun _ h => nomatch h⟩⟩) ⟨.nil, rfl, Nat.le_refl _, Nat.le_refl _⟩ ?_ ?_
  · intro c i v u h tk own hv hoff hP F3 N3
    refine Classical.byContradiction fun hng9 => ?_
    obtain ⟨kept, kv, K, n, debt, td⟩ := c
    refine hng9 ?_
    clear hng9
    refine Classical.byContradiction fun hng9 => ?_
    obtain ⟨hK, hgo, hkl, hdl⟩ := hP
    refine hng9 ?_
    clear hng9
    dsimp only at hK hgo hkl hdl hoff F3 N3 ⊢
    refine Classical.byContradiction fun hng9 => ?_
    obtain ⟨y, ty, rfl, hy⟩ := StrsAre.item (strs_rev hS) i v hv
    refine hng9 ?_
    clear hng9
    have hil : i < 1000 := by have := (List.getElem?_eq_some_iff.mp hy).1; rw [List.length_reverse] at this; omega
    have hdr : parts.reverse.drop i = y :: parts.reverse.drop (i + 1) := by
      obtain ⟨h1, h2⟩ := List.getElem?_eq_some_iff.mp hy
      rw [List.drop_eq_getElem_cons h1, h2]
    rw [hdr] at hgo
    have hyl : y.length ≤ 100000 := hb y (List.mem_reverse.mp (List.mem_of_getElem? hy))
    have hkv : kv.length ≤ 1000 := by rw [hK.len_eq]; omega
    simp only [List.cons_append] at N3
    (k_unmd)
    (try k_fold)
    k_steps
    · k_unmd
      k_unfold
      unfold InvPostG
      dsimp only
      k_steps
      rename (_ < _ ∧ _ < _ ∧ _ < _ ∧ AllLt _ (_ ++ _)) => hq
      have e9 : straightF parts = Str.ofString "//" :: kept := by
        rw [← hgo, st_root (by assumption)]
        rw [if_pos (by assumption)]
      rw [e9] at hret
      exact hret _ _ _ _ ⟨_, Value.str (Str.ofString "//") _ :: kv, 0, rfl, rfl, .cons _ _ hK, lt_left hq.2.2.2⟩ (by assumption) (cb_drop (by assumption) (List.forall_mem_cons.mpr ⟨by exact List.Mem.head _, fun p hp => by walk_at "Mnews"⟩))
    · k_unmd
      k_unfold
      unfold InvPostG
      dsimp only
      k_steps
      rename (_ < _ ∧ _ < _ ∧ _ < _ ∧ AllLt _ (_ ++ _)) => hq
      have e9 : straightF parts = Str.ofString "/" :: kept := by
        rw [← hgo, st_root (by assumption)]
        rename ((y == Str.ofString "//") = false) => h9; rw [h9]; rfl
      rw [e9] at hret
      exact hret _ _ _ _ ⟨_, Value.str (Str.ofString "/") _ :: kv, 0, rfl, rfl, .cons _ _ hK, lt_left hq.2.2.2⟩ (by assumption) (cb_drop (by assumption) (List.forall_mem_cons.mpr ⟨by exact List.Mem.head _, fun p hp => by walk_at "Mnews"⟩))
    · refine st_end (⟨kept, kv, K, n, debt + 1, _⟩ : StC) (by assumption) (by assumption) (by walk_at "Msub") (by intro p hp; walk_at "Mnews") hoff (List.forall_mem_cons.mpr ⟨rfl, List.forall_mem_cons.mpr ⟨rfl, fun _ h => nomatch h⟩⟩) (by walk_at "Mhr") ⟨hK, ?_, Nat.le_succ_of_le hkl, Nat.succ_le_succ hdl⟩
      rw [← hgo, st_up (by assumption) (by assumption)]
    · rename (List.any _ _ = true) => h9
      rw [own_any, Bool.not_eq_true'] at h9
      refine st_end (⟨kept, kv, K, n, debt, _⟩ : StC) (by assumption) (by assumption) (by walk_at "Msub") (by intro p hp; walk_at "Mnews") hoff (List.forall_mem_cons.mpr ⟨rfl, List.forall_mem_cons.mpr ⟨rfl, fun _ h => nomatch h⟩⟩) (by walk_at "Mhr") ⟨hK, ?_, Nat.le_succ_of_le hkl, Nat.le_succ_of_le hdl⟩
      rw [← hgo, st_skip (by assumption) (by assumption) h9]
    · rename (List.any _ _ = false) => h9
      rw [own_any, Bool.not_eq_false'] at h9
      have h8 : 0 < debt := by omega
      refine st_end (⟨kept, kv, K, n, debt - 1, _⟩ : StC) (by assumption) (by assumption) (by walk_at "Msub") (by intro p hp; walk_at "Mnews") hoff (List.forall_mem_cons.mpr ⟨rfl, List.forall_mem_cons.mpr ⟨dec_val h8 _, fun _ h => nomatch h⟩⟩) (by walk_at "Mhr") ⟨hK, ?_, Nat.le_succ_of_le hkl, Nat.le_trans (Nat.sub_le _ _) (Nat.le_succ_of_le hdl)⟩
      rw [← hgo, st_pay (by assumption) (by assumption) h9 h8]
    · rename (List.any _ _ = false) => h9
      rw [own_any, Bool.not_eq_false'] at h9
      have h8 : ¬ 0 < debt := by omega
      rename (_ < _ ∧ _ < _ ∧ _ < _ ∧ _ < _ ∧ _ < _ ∧ AllLt _ (_ ++ _)) => hq
      refine st_end (⟨y :: kept, Value.str y ty :: kv, _, _, debt, _⟩ : StC) (by assumption) (by assumption) (by walk_at "Msub") (by intro p hp; walk_at "Mnews") ?_ (List.forall_mem_cons.mpr ⟨rfl, List.forall_mem_cons.mpr ⟨rfl, fun _ h => nomatch h⟩⟩) (by walk_at "Mhr") ⟨.cons _ _ hK, ?_, Nat.succ_le_succ hkl, Nat.le_succ_of_le hdl⟩
      · intro p hp b hb
        rcases List.mem_cons.mp hb with rfl | hb
        · exact hoff p hp _ (.head _)
        · rcases List.mem_cons.mp hb with rfl | hb
          · exact allLt_ne hq.2.2.2.2.2 p (List.mem_append.mpr (.inr hp))
          · exact hoff p hp b (.tail _ (.tail _ hb))
      rw [← hgo, st_push (by assumption) (by assumption) h9 h8]
  · intro c u h tk hP F3 N3
    refine Classical.byContradiction fun hng9 => ?_
    obtain ⟨kept, kv, K, n, debt, td⟩ := c
    refine hng9 ?_
    clear hng9
    refine Classical.byContradiction fun hng9 => ?_
    obtain ⟨hK, hgo, hkl, hdl⟩ := hP
    refine hng9 ?_
    clear hng9
    dsimp only at hK hgo hkl hdl F3 N3
    have hdn : parts.reverse.drop pv.reverse.length = [] := List.drop_eq_nil_of_le (by rw [List.length_reverse, List.length_reverse, hS.len_eq]; exact Nat.le_refl _)
    rw [hdn] at hgo
    have hdb : debt ≤ 200 := by rw [List.length_reverse, hS.len_eq] at hdl; omega
    have hkv : kv.length ≤ 200 := by rw [hK.len_eq]; rw [List.length_reverse, hS.len_eq] at hkl; omega
    have hkk : kept.length ≤ 200 := by rw [List.length_reverse, hS.len_eq] at hkl; omega
    have hrp : ∀ x : Value, (List.replicate ((debt : Int)).toNat [x]).flatten = List.replicate debt x := fun x => by rw [Int.toNat_natCast]; simp
    (k_unmd)
    k_steps
    · rename (List.isEmpty _ = true) => h9
      rename (_ < _ ∧ _ < _ ∧ _ < _ ∧ _ < _ ∧ _ < _ ∧ _ < _ ∧ _ < _ ∧ AllLt _ news) => hq
      have e9 : straightF parts = [Str.ofString "", Str.ofString "."] := by
        rw [← hgo]
        show Str.ofString "" :: (if _ then _ else _) = _
        rw [if_pos h9]
      rw [e9] at hret
      exact hret _ _ _ _ ⟨_, [Value.str (Str.ofString "") _, Value.str (Str.ofString ".") _], 0, rfl, rfl, .cons _ _ (.cons _ _ .nil), hq.2.2.2.2.2.2.2⟩ (by assumption) (cb_drop (by assumption) (List.forall_mem_cons.mpr ⟨by exact List.Mem.head _, fun p hp => by walk_at "Mnews"⟩))
    · rename (List.isEmpty _ = false) => h9
      rename (_ < _ ∧ _ < _ ∧ _ < _ ∧ _ < _ ∧ _ < _ ∧ _ < _ ∧ AllLt _ news) => hq
      have e9 : straightF parts = Str.ofString "" :: (List.replicate debt dd ++ kept) := by
        rw [← hgo]
        show Str.ofString "" :: (if _ then _ else _) = _
        rw [if_neg (by rw [h9]; exact Bool.false_ne_true)]
      rw [e9] at hret
      exact hret _ _ _ _ ⟨_, Value.str (Str.ofString "") _ :: _, 0, rfl, rfl, .cons _ _ (strs_rep hK _), hq.2.2.2.2.2.2⟩ (by assumption) (cb_drop (by assumption) (List.forall_mem_cons.mpr ⟨by exact List.Mem.head _, fun p hp => by walk_at "Mnews"⟩))
end

section
open PySem PySem.W PyProof.Rows PySem.Calls PyProof.Rows.LCg
section
variable {prog : Program} {w : World} {A : Around} {E : Value → Shared → Prop} {s : Shared} {h₀ : Heap} {L D : Addr} {nw : List (Addr × Obj)} {vs : List Value} {ys : List Str} {n : Nat}
theorem len_vals {Q : Value → Shared → Prop} (N : News h₀ L s.heap nw) (hm : (D, listOf vs.toArray n) ∈ nw) (hb : vs.length ≤ 1000000) (h : Q (.int (vs.length : Int) (s.toks + 1)) { s with toks := s.toks + 1 + 1 }) : wpAny (model prog w) A (call (.builtin "len") [.ref D]) Q E s :=
  len_list (lst_at N hm) (by rw [List.size_toArray]; omega) (by rw [List.size_toArray]; exact h)
theorem strs_getD {vs : List Value} {ys : List Str} (h : StrsAre vs ys) : ∀ (i : Nat), i < ys.length → ∃ t, vs[i]? = some (.str (ys.getD i (Str.ofString "")) t) := by
  induction h with
  | nil => intro i h; cases h
  | cons y t r ih =>
    intro i h
    cases i with
    | zero => exact ⟨t, rfl⟩
    | succ i => obtain ⟨u, hu⟩ := ih i (by simpa using h); exact ⟨u, by simpa using hu⟩
theorem item_sel {value slice : Expr} {iv : Int} {u : Tok} {Q : Value → Shared → Prop} (N : News h₀ L s.heap nw) (hm : (D, listOf vs.toArray n) ∈ nw) (hi : StrsAre vs ys) (h0 : 0 ≤ iv) (h1 : iv < (ys.length : Int)) (hb : ys.length ≤ 1000000)
    (h : ∀ t, Q (.str (ys.getD iv.toNat (Str.ofString "")) t) s) (hs : subscripted slice false (.ref D) (.int iv u) = operate [.ref D, .int iv u] (getItem (.ref D) (.int iv u)) := by with_unfolding_all rfl) :
    wpAny (model prog w) A (subscriptTail value slice (.ref D) (.int iv u)) Q E s := by
  obtain ⟨t, ht⟩ := strs_getD hi iv.toNat (by omega)
  exact item_vals iv.toNat N hm (by omega) (by omega) ht (h t) hs
end
theorem from_vals (vs : List Value) (k : Nat) : slicePick vs.toArray (some (k : Int)) none none = (vs.drop k).toArray := by
  rw [kms_pick_eq]
  congr 1
  unfold kms_pick
  have h := int_nn k
  simp [kms_lo, kms_hi, h]
  rw [kmk_drop_min, List.take_of_length_le (by rw [List.length_drop]; exact Nat.sub_le_sub_left (Nat.min_le_left _ _) _)]
theorem but_last (vs : List Value) : slicePick vs.toArray none (some (-1)) none = vs.dropLast.toArray := by
  rw [kms_pick_eq]
  congr 1
  unfold kms_pick
  simp [kms_lo, kms_hi, List.dropLast_eq_take]
theorem the_last (vs : List Value) : slicePick vs.toArray (some (-1)) none none = (vs.drop (vs.length - 1)).toArray := by
  rw [kms_pick_eq]
  congr 1
  unfold kms_pick
  simp [kms_lo, kms_hi]
  exact List.take_of_length_le (by rw [List.length_drop]; exact Nat.le_refl _)
theorem take_next {parts : List Str} {i : Nat} (hi : i < parts.length) : parts.take (i + 1) = parts.take i ++ [parts.getD i (Str.ofString "")] := by
  rw [List.take_add_one, List.getElem?_eq_getElem hi, List.getD, List.getElem?_eq_getElem hi]; rfl
theorem jf_no {parts : List Str} {i j : Nat} {root : Str} (hi : i < parts.length) (hfo : (parts.take i).foldl jfStep (Str.ofString "", []) = (root, (parts.take i).drop j)) (hj : j ≤ i) (h : (Txt.slice (parts.getD i (Str.ofString "")) none (some 1) == Str.ofString "/") = false) :
    (parts.take (i + 1)).foldl jfStep (Str.ofString "", []) = (root, (parts.take (i + 1)).drop j) := by
  rw [take_next hi, List.foldl_append, hfo, List.drop_append_of_le_length (by rw [List.length_take]; omega)]
  show jfStep _ _ = _
  unfold jfStep
  rw [if_neg (by rw [h]; exact Bool.false_ne_true)]
theorem jf_yes {parts : List Str} {i j : Nat} {root : Str} (hi : i < parts.length) (hfo : (parts.take i).foldl jfStep (Str.ofString "", []) = (root, (parts.take i).drop j)) (h : (Txt.slice (parts.getD i (Str.ofString "")) none (some 1) == Str.ofString "/") = true) :
    (parts.take (i + 1)).foldl jfStep (Str.ofString "", []) = (parts.getD i (Str.ofString ""), (parts.take (i + 1)).drop (i + 1)) := by
  rw [List.drop_eq_nil_of_le (List.length_take_le _ _), take_next hi, List.foldl_append, hfo]
  show jfStep _ _ = _
  unfold jfStep
  rw [if_pos h]
theorem filt_strs (g : Str → Bool) (f : Nat → Bool) : ∀ {vs : List Value} {ys : List Str}, StrsAre vs ys → ∀ k, (∀ i y, ys[i]? = some y → f (k + i) = g y) → StrsAre (((vs.zipIdx k).filter fun p => f p.2).map (·.1)) (ys.filter g)
  | _, _, .nil, _, _ => .nil
  | _, _, .cons y t h, k, hf => by
    have h0 : f k = g y := hf 0 y rfl
    have ih := filt_strs g f h (k + 1) fun i z hz => by rw [Nat.add_assoc, Nat.add_comm 1 i]; exact hf (i + 1) z hz
    rw [List.zipIdx_cons, List.filter_cons, List.filter_cons, h0]
    by_cases hg : g y = true
    · rw [if_pos hg, if_pos hg]; exact .cons y t ih
    · rw [if_neg hg, if_neg hg]; exact ih
theorem strs_init {vs : List Value} {ys : List Str} (h : StrsAre vs ys) : StrsAre vs.dropLast ys.dropLast := by
  rw [List.dropLast_eq_take, List.dropLast_eq_take, h.len_eq]
  exact h.take' _
theorem sum_le2 {B : Nat} : ∀ {l : List Str}, (∀ y ∈ l, y.length ≤ B) → (l.map (·.length)).sum ≤ l.length * B
  | [], _ => Nat.zero_le _
  | y :: l, h => by
    have h1 := h y (.head _)
    have h2 := sum_le2 (l := l) fun z hz => h z (.tail _ hz)
    rw [List.map_cons, List.sum_cons, List.length_cons, Nat.add_mul]
    omega
theorem jn_len2 (s : Str) : ∀ l : List Str, (Str.join s l).length ≤ (l.map (·.length)).sum + l.length * s.length
  | [] => Nat.zero_le _
  | [x] => by show x.length ≤ _; simp
  | x :: y :: r => by
    have h := jn_len2 s (y :: r)
    rw [join_cons2, len_app, len_app, List.map_cons, List.sum_cons, List.length_cons, Nat.add_mul]
    omega
structure JnS where
  root : Str
  tr : Tok
  B : Addr
  bv : List Value
  n : Nat
  j : Nat
  ex : List (Addr × Obj)
theorem mw_M3_0 : True := by
  k_with_none
  trivial
theorem mw_M3_1 : True := by
  (k_with "Mdrop" => first | assumption | (refine' cb_drop ?cbN ?cbS; (case cbN => assumption); (case cbS => kcj_all)))
  (k_with "Mnews" => k_dflt (repeat (first | assumption | exact List.mem_append_left _ (by assumption) | exact List.mem_append_right _ (by assumption) | refine List.Mem.tail _ ?_)))
  (k_with "Mnews2" => k_dflt (exact List.Mem.tail _ (List.mem_append_left _ (List.mem_append_right _ (by assumption)))))
  (k_with "Mhr" => k_dflt (intro z hz h2 h3; (have e1 := h2 _ (.head _)); (have e2 := h2 _ (.tail _ (.head _))); dsimp only at e1 e2; ((try dsimp only [kstB]); repeat (first | rfl | (refine (if_neg (by first | exact hz | exact e1 | exact e2)).trans ?_)))))
  trivial
theorem mw_M3_2 : True := by
  (k_with "call builtin:len" => (k_here; k_dflt (refine' len_vals ?u1 ?u2 ?u3 ?_; (case u1 => k_asm); (case u2 => walk_at "Mnews"); (case u3 => omega); k_whole)))
  (k_with "call type:range" => ((with_reducible show wpAny _ _ (call _ [_]) _ _ _); k_dflt (refine' range1_rows ?u1 ?u2 ?_; (case u1 => k_asm); (case u2 => k_asm); k_whole); intro _ _ _ _ _ _ _ _ _))
  (k_with "exec For Name Call cons nil" => (refine stuck_at ?_))
  (k_with "subscriptTail Name Name ref int" => (k_here; (with_reducible show wpAny _ _ (subscriptTail _ _ (Value.ref _) (Value.int _ _)) _ _ _); k_dflt (refine' item_sel (ys := parts) ?u1 ?u2 ?u3 ?u4 ?u5 ?u6 ?_; (case u1 => k_asm); (case u2 => assumption); (case u3 => assumption); (case u4 => omega); (case u5 => omega); (case u6 => omega); k_whole); intro _; (try dsimp only)))
  (k_with "subscriptTail" => ((with_reducible show wpAny _ _ (subscriptTail (PySem.Expr.Subscript _ _ _) _ _ _) _ _ _); k_dflt (refine kba_turn (value' := PySem.Expr.Name (PySem.Str.ofString "_") ⟨0, 0, 0, 0⟩) (fun _ => rfl) ?_)))
  (k_with "subscriptTail Name Slice ref ref" => (refine stuck_at ?_))
  (k_with "binaryOp Add ref ref" => (k_here; (with_reducible show wpAny _ _ (binaryOp _ (Value.ref _) (Value.ref _)) _ _ _); k_dflt (refine' add_vals ?k1 ?k2 ?k3 ?k4 ?k5 ?_; (case k1 => k_asm); (case k2 => k_asm); (case k3 => k_mem); (case k4 => k_mem); (case k5 => omega); k_whole); intro _ _ _ _ l1))
  (k_with "call builtin:str.join" => (k_here; k_dflt (refine' join_listW ?u1 ?u2 ?u3 ?u4 ?_; (case u1 => exact News.isList (by k_asm) (by k_mem)); (case u2 => (with_reducible assumption)); (case u3 => decide +kernel); (case u4 => assumption); k_whole); intro _ _))
  (k_with "binaryOp Add str str" => (k_here; k_dflt (refine' KOpn.add ?u1 ?_; (case u1 => assumption); k_whole); intro _ _ _))
  (k_with "CompSrcT" => (refine stuck_at ?_))
  (k_with "eval ListComp" => (k_here; k_dflt (refine LCt.ListComp_T (F₀ := by k_asm) (by rfl) (by decide) (by rfl) (by decide) (by rfl) ?_)))
  (k_with "pyIter ref" => ((with_reducible show wpAny _ _ (pyIter _) (fun _ _ => LoopAtV _ _ _ _ _ _ _ _ _ _ _) _ _); (refine stuck_at ?_)))
  trivial
theorem joined_does (w : World) (mean : ExcName → Option Value) (mg mb : Str → Option Value) (news : List (Addr × Obj)) (P0 : Addr) (pv : List Value) (pk : Nat) (parts : List Str) (hS : StrsAre pv parts) (hm : (P0, listOf pv.toArray pk) ∈ news) (hn : parts.length ≤ 200) (hb : ∀ p ∈ parts, p.length ≤ 100) :
  Does PySem.Challenge.rw_rx0110_01.row.prog w (hd.heap_39 w.params) topProg (looseW hd.view_39 [Str.ofString "_twin_re_1", Str.ofString "_special_chars_map"] ++ (recsOf hd.view_39).map (fun x => x.name) ++ (litsOf hd.view_39).map (fun x => x.1) ++ (clssOf hd.view_39 (looseW hd.view_39 [Str.ofString "_twin_re_1", Str.ofString "_special_chars_map"])).map (fun x => x.name)) mean mg mb 206 1 news [Value.ref P0] (fun n r => n = news ∧ ∃ t, r = .str (joinedF parts) t) := by
  k_fill
  unfold Does
  intro dp un gd cn cs a ccd cl outer A₀ base h₀ L m s Q E B F X N T hk hd hu hret
  refine wpAny_call ?_
  (k_dflt cell_enter)
  have hpl : pv.length ≤ 200 := by rw [hS.len_eq]; omega
  k_steps
  unfold Stuck
  rename_i g1 L1 h0 FG1 B1 X1 T1 h1 h2 F1 N1
  refine For_invVF F1 rfl rfl ?_
  (k_unmd)
  k_steps
  rename_i h3 tk3 t3 u3 v3 R3 F3 N3 K3
  unfold Stuck
  refine range_st (σ := JnS) (fun c => c.ex ++ news) (fun c => [(Str.ofString "root", .str c.root c.tr), (Str.ofString "behind", .ref c.B)]) []
    (fun i c => (parts.take i).foldl jfStep (Str.ofString "", []) = (c.root, (parts.take i).drop c.j) ∧ c.j ≤ i ∧ StrsAre c.bv (parts.drop c.j) ∧ (c.B, listOf c.bv.toArray c.n) ∈ c.ex ++ news ∧ c.root.length ≤ 100) ⟨Str.ofString "", _, P0, pv, pk, 0, []⟩ rfl R3 (small_one (by omega) (by omega) (by omega) (by omega)) (rangeSize_nat _ _) F3 N3
    (List.forall_mem_cons.mpr ⟨rfl, List.forall_mem_cons.mpr ⟨rfl, fun _ h => nomatch h⟩⟩) ⟨rfl, Nat.le_refl _, hS, hm, by show (Str.ofString "").length ≤ 100; decide +kernel⟩ ?_ ?_
  · intro c i ti u h tk own hi hoff hP F4 N4
    refine Classical.byContradiction fun hng9 => ?_
    obtain ⟨root, tr, B9, bv, n9, j, ex⟩ := c
    refine hng9 ?_
    clear hng9
    refine Classical.byContradiction fun hng9 => ?_
    obtain ⟨hfo, hji, hbv, hBm, hrl⟩ := hP
    refine hng9 ?_
    clear hng9
    dsimp only at hfo hji hbv hBm hrl hoff F4 N4 ⊢
    have hip : i < parts.length := by rw [← hS.len_eq]; omega
    have hm4 : (P0, listOf pv.toArray pk) ∈ ex ++ news ++ own := List.mem_append.mpr (.inl (List.mem_append.mpr (.inr hm)))
    have hyl : (parts.getD i (Str.ofString "")).length ≤ 100 := hb _ (by rw [List.getD, List.getElem?_eq_getElem hip]; exact List.getElem_mem hip)
    have hyl2 : (parts.getD (i : Int).toNat (Str.ofString "")).length ≤ 100 := hyl
    (k_unmd)
    (try k_fold)
    k_steps
    · unfold Stuck
      refine' kmk_slice_lit (zs := pv.drop (i + 1)) ?F ?N ?l (IsPart.int _ _) .none (congrArg Array.toList (from_vals pv (i + 1))) ?_ ?s ?t ?z
      (case F => k_asm)
      (case N => k_asm)
      (case l => exact News.isList (by k_asm) hm4)
      (case s => with_unfolding_all rfl)
      (case t => kmk_pure)
      (case z => rw [List.size_toArray, sizeLine_eq]; omega)
      intro D5 h5 F5 N5 l5
      (k_unmd)
      k_steps
      refine st_end (⟨parts.getD i (Str.ofString ""), _, D5, pv.drop (i + 1), 0, i + 1, [(D5, listOf (pv.drop (i + 1)).toArray 0)]⟩ : JnS) (by assumption) (by assumption) (List.forall_mem_cons.mpr ⟨.head _, fun p hp => by walk_at "Mnews2"⟩) (by intro p hp; walk_at "Mnews") ?_ (List.forall_mem_cons.mpr ⟨rfl, List.forall_mem_cons.mpr ⟨rfl, fun _ h => nomatch h⟩⟩) (by walk_at "Mhr") ⟨jf_yes hip hfo (by assumption), Nat.le_refl _, hS.drop' _, .head _, hyl⟩
      intro p hp b hb
      rcases List.mem_cons.mp hb with rfl | hb
      · exact Nat.ne_of_lt (l5 p (List.mem_append.mpr (.inr hp)))
      · refine hoff p hp b ?_
        rw [List.map_append]
        exact List.mem_append.mpr (.inr hb)
    · refine st_end (⟨root, tr, B9, bv, n9, j, ex⟩ : JnS) (by assumption) (by assumption) (fun p hp => List.mem_append.mpr (.inl hp)) (fun p hp => List.mem_append.mpr (.inr hp)) hoff (List.forall_mem_cons.mpr ⟨rfl, List.forall_mem_cons.mpr ⟨rfl, fun _ h => nomatch h⟩⟩) (by walk_at "Mhr") ⟨jf_no hip hfo hji (by assumption), Nat.le_succ_of_le hji, hbv, hBm, hrl⟩
  · intro c u h tk hP F4 N4
    refine Classical.byContradiction fun hng9 => ?_
    obtain ⟨root, tr, B9, bv, n9, j, ex⟩ := c
    refine hng9 ?_
    clear hng9
    refine Classical.byContradiction fun hng9 => ?_
    obtain ⟨hfo, hji, hbv, hBm, hrl⟩ := hP
    refine hng9 ?_
    clear hng9
    dsimp only at hfo hji hbv hBm hrl F4 N4
    rw [hS.len_eq, Int.sub_zero, Int.toNat_natCast, List.take_length] at hfo
    have hbl : bv.length ≤ 200 := by rw [hbv.len_eq, List.length_drop]; omega
    (k_unmd)
    k_steps
    unfold Stuck
    refine' kmk_slice_lit (zs := bv.dropLast) ?F ?N ?l .none (IsPart.int _ _) (congrArg Array.toList (but_last bv)) ?_ ?s ?t ?z
    (case F => k_asm)
    (case N => k_asm)
    (case l => exact News.isList (by k_asm) hBm)
    (case s => with_unfolding_all rfl)
    (case t => kmk_pure)
    (case z => rw [List.size_toArray, sizeLine_eq]; omega)
    intro D5 h5 F5 N5 l5
    (k_unmd)
    k_steps
    unfold Stuck
    have hI := strs_init hbv
    have hil : bv.dropLast.length ≤ 200 := by rw [List.length_dropLast]; omega
    refine LCt.CompSrcT.ledger rfl F5 N5 (.head _) (by rw [List.size_toArray, sizeLine_eq]; omega) ?_
    intro g9
    rw [List.size_toArray]
    refine comp_test bv.dropLast (fun i => !((parts.drop j).dropLast.getD i (Str.ofString "") == Str.ofString "")) (fun i v h => by simpa using h) (.inr ⟨_, .head _, rfl, _, rfl⟩) ?_ ?_ ?_
    · intro i zs v I oI C oC D2 m2 h2 tk2 E2 hv hC hx2 F2 N2 off ne
      refine Classical.byContradiction fun hng9 => ?_
      obtain ⟨y, ty, rfl, hy⟩ := StrsAre.item hI i v hv
      refine hng9 ?_
      clear hng9
      have hyd : (parts.drop j).dropLast.getD i (Str.ofString "") = y := by simp [List.getD, hy]
      rw [hyd]
      (try k_unmd)
      (try k_fold)
      k_steps

      all_goals first | assumption | walk_at "Mdrop"
    · intro i zs v I oI C oC D2 m2 h2 tk2 E2 hv hC hx2 F2 N2 off ne
      (try k_unmd)
      (try k_fold)
      k_steps
      all_goals first | assumption | walk_at "Mdrop"
    · have hF := filt_strs (fun p => !(p == Str.ofString "")) (fun i => !((parts.drop j).dropLast.getD i (Str.ofString "") == Str.ofString "")) hI 0 (fun i y hy => by simp [List.getD, hy])
      generalize ((bv.dropLast.zipIdx.filter _).map (·.1)) = fv at hF ⊢
      unfold FinE
      intro D6 h6 tk6 F6 N6 o6
      dsimp only
      (k_unmd)
      k_steps
      unfold Stuck
      have hL := hbv.drop' (bv.length - 1)
      have hAll := hF.append' hL
      rw [hbv.len_eq] at hAll
      have hfl : fv.length ≤ 200 := by rw [hF.len_eq]; exact Nat.le_trans (List.length_filter_le _ _) (by rw [List.length_dropLast, List.length_drop]; omega)
      refine' kmk_slice_lit (l := B9) (zs := bv.drop (bv.length - 1)) ?F ?N ?l (IsPart.int _ _) .none (congrArg Array.toList (the_last bv)) ?_ ?s ?t ?z
      (case F => k_asm)
      (case N => k_asm)
      (case l => exact News.isList (by k_asm) (List.Mem.tail _ (List.Mem.tail _ hBm)))
      (case s => with_unfolding_all rfl)
      (case t => kmk_pure)
      (case z => rw [List.size_toArray, sizeLine_eq]; omega)
      intro D7 h7 F7 N7 l7
      have hdl : (bv.drop (bv.length - 1)).length ≤ 200 := by rw [List.length_drop]; omega
      have hw : ((((parts.drop j).dropLast.filter fun p => !(p == Str.ofString "")) ++ (parts.drop j).drop ((parts.drop j).length - 1)).map (·.length)).sum + (((parts.drop j).dropLast.filter fun p => !(p == Str.ofString "")) ++ (parts.drop j).drop ((parts.drop j).length - 1)).length ≤ 1048576 := by
        have h1 := sum_le2 (l := ((parts.drop j).dropLast.filter fun p => !(p == Str.ofString "")) ++ (parts.drop j).drop ((parts.drop j).length - 1)) (B := 100) fun y hy => hb y (by
          rcases List.mem_append.mp hy with hy | hy
          · exact List.mem_of_mem_drop ((List.dropLast_sublist _).subset (List.mem_filter.mp hy).1)
          · exact List.mem_of_mem_drop (List.mem_of_mem_drop hy))
        have h2 := hAll.len_eq
        rw [List.length_append] at h2
        rw [hbv.len_eq] at hdl
        omega
      have hz := jn_len2 (Str.ofString "/") (((parts.drop j).dropLast.filter fun p => !(p == Str.ofString "")) ++ (parts.drop j).drop ((parts.drop j).length - 1))
      rw [show (Str.ofString "/").length = 1 from rfl, ← tjoin] at hz
      have hz9 : root.length + (Txt.join (Str.ofString "/") (((parts.drop j).dropLast.filter fun p => !(p == Str.ofString "")) ++ (parts.drop j).drop ((parts.drop j).length - 1))).length ≤ 16777216 := by omega
      rw [← hbv.len_eq] at hAll hw hz9
      (k_unmd)
      k_steps
      have e9 : joinedF parts = root ++ Txt.join (Str.ofString "/") (((parts.drop j).dropLast.filter fun p => !(p == Str.ofString "")) ++ (parts.drop j).drop (bv.length - 1)) := by
        unfold joinedF
        rw [hfo, hbv.len_eq]; rfl
      rw [e9] at hret
      exact hret _ _ _ _ ⟨rfl, _, rfl⟩ (by assumption) (cb_drop (by assumption) fun p hp => by walk_at "Mnews")
end

section
open PySem PySem.W PyProof.Rows PySem.Calls PyProof.Rows.LCg
noncomputable def sgnT : List (Str × Str) := ([("a", "a"), ("b", "b"), ("?", "ab"), ("\\.", "."), ("[^a]", "b"), ("[^b]", "a"), ("[ab]", "ab"), ("[a-b]", "ab"), ("(?!)", "")] : List (String × String)).map fun p => (Str.ofString p.1, Str.ofString p.2)
noncomputable def sgnOf (it : Str) : Str := ((sgnT.find? fun q => q.1 == it).map (·.2)).getD (Str.ofString "")
noncomputable def okAt (x it : Str) (e : Int) : Bool := decide (e < (x.length : Int)) && Txt.contains (sgnOf it) (Txt.item x e)
noncomputable def takesGo (x : Str) : List (Option Str) → List Int → Bool
  | [], ends => ends.any fun e => e == (x.length : Int)
  | some it :: r, ends => takesGo x r ((ends.filter (okAt x it)).map (· + 1))
  | none :: r, ends => if r.head? == some none || ends.isEmpty then false else takesGo x r (rangeInts (ends.headD 0) 1 ((x.length : Int) + 1 - ends.headD 0).toNat)
noncomputable def takesF (items : List (Option Str)) (x : Str) : Bool := takesGo x items [0]
theorem OutAre.at : ∀ {vs : List Value} {os : List (Option Str)}, OutAre vs os → ∀ (i : Nat), i < os.length → (vs[i]? = some .none ∧ os[i]? = some none) ∨ ∃ y t, vs[i]? = some (.str y t) ∧ os[i]? = some (some y)
  | _, _, .nil, i, h => by cases h
  | _, _, .star _, 0, _ => .inl ⟨rfl, rfl⟩
  | _, _, .text y t _, 0, _ => .inr ⟨y, t, rfl, rfl⟩
  | _, _, .star r, i + 1, h => r.at i (Nat.lt_of_succ_lt_succ h)
  | _, _, .text _ _ r, i + 1, h => r.at i (Nat.lt_of_succ_lt_succ h)
theorem fr_know {h₀ h : Heap} {L : Addr} {m : Str → Option Value} {x : Str} {v : Value} (F : Fr h₀ L h m) (e : m x = some v) : Fr h₀ L h (fun y => if y = x then some v else m y) := by
  have : (fun y => if y = x then some v else m y) = m := by
    funext y
    by_cases hy : y = x
    · rw [if_pos hy, hy, e]
    · rw [if_neg hy]
  rw [this]; exact F
theorem mid_one (vs : List Value) (k : Nat) : slicePick vs.toArray (some (k : Int)) (some ((k + 1 : Nat) : Int)) none = ((vs.drop k).take 1).toArray := by
  rw [kms_pick_eq]
  congr 1
  unfold kms_pick
  have h := int_nn k
  have h2 := int_nn (k + 1)
  simp only [kms_lo, kms_hi]
  rw [if_neg h, if_neg h2, Int.toNat_natCast, Int.toNat_natCast]
  rcases Nat.le_total (k + 1) vs.length with hl | hl
  · rw [Nat.min_eq_left hl, Nat.min_eq_left (by omega : k ≤ vs.length)]
    congr 1
    omega
  · rw [Nat.min_eq_right hl, kmk_drop_min]
    rw [List.take_of_length_le (by rw [List.length_drop]; omega), List.take_of_length_le (by rw [List.length_drop]; omega)]
theorem one_of {iv : List Value} {items : List (Option Str)} (h : OutAre iv items) : ∀ j, ((iv.drop j).take 1 = [.none] ∧ (items.drop j).head? = some none) ∨ ∃ zs, (iv.drop j).take 1 = zs ∧ (zs = [] ∨ ∃ z tz, zs = [.str z tz]) ∧ (items.drop j).head? ≠ some none := by
  induction h with
  | nil => intro j; exact .inr ⟨[], by simp, .inl rfl, by simp⟩
  | star r ih =>
    intro j
    cases j with
    | zero => exact .inl ⟨rfl, rfl⟩
    | succ j => exact ih j
  | text y t r ih =>
    intro j
    cases j with
    | zero => exact .inr ⟨_, rfl, .inr ⟨y, t, rfl⟩, by simp⟩
    | succ j => exact ih j
section
variable {prog : Program} {w : World} {A : Around} {E : Value → Shared → Prop} {s : Shared} {h₀ : Heap} {L a b : Addr} {nw : List (Addr × Obj)} {n k : Nat} {Q : Value → Shared → Prop}
theorem list_range_vals {r : Addr} {a0 b0 : Int} {t u v : Tok} {m9 : Nat} {m : Str → Option Value} (hh : A.handled = none) (F : Fr h₀ L s.heap m) (N : News h₀ L s.heap nw) (hr : IsRange s.heap r a0 b0 1 t u v) (hsmall : Builtin.Range.small a0 b0 1 = true) (hn : Builtin.Range.rangeSize a0 b0 1 = (m9 : Int)) (hlen : m9 ≤ 2 ^ 24)
    (h : ∀ D ys k h' tk, Fr h₀ L h' m → News h₀ L h' ((D, listOf ys.toArray k) :: nw) → (∀ p ∈ nw, p.1 < D) → IntsAre ys (rangeInts a0 1 m9) → Q (.ref D) { s with heap := h', toks := tk }) : wpAny (model prog w) A (call (.type "list") [.ref r]) Q E s := by
  refine list_rangeD hh F N hr hsmall hn hlen fun h' tk ys F' N' K h0 hl hp hc => ?_
  refine Classical.byContradiction fun hng9 => ?_
  obtain ⟨⟨k, e⟩, hne⟩ := hp
  refine hng9 ?_
  clear hng9
  refine h _ ys k h' tk F' (fun p hp => ?_) (fun p hp => Heap.lt_size (N p hp).1) (by have hi := CarriedAll.intsOf (as := rangeInts a0 1 m9) (f := id) hc; rwa [List.map_id] at hi)
  rcases List.mem_cons.mp hp with rfl | hp
  · exact ⟨e, Nat.ne_of_gt F.ns.lt, h0⟩
  · exact N' p hp
theorem eq_none1 (N : News h₀ L s.heap nw) (ha : (a, listOf ([] : List Value).toArray n) ∈ nw) (hb : (b, listOf #[Value.none] k) ∈ nw) (hu : A.units < cLine) (h : Q (.bool false) s) : wpAny (model prog w) A (compareOp .Eq (.ref a) (.ref b)) Q E s :=
  PySem.SeqAt.eq_list_lengthsAt (lst_at N ha) (lst_at (vs := [Value.none]) N hb) (by simp) hu h
theorem eq_none2 (N : News h₀ L s.heap nw) (ha : (a, listOf [Value.none].toArray n) ∈ nw) (hb : (b, listOf #[Value.none] k) ∈ nw) (hu : A.units < cLine) (h : Q (.bool true) s) : wpAny (model prog w) A (compareOp .Eq (.ref a) (.ref b)) Q E s := by
  refine PySem.SeqAt.eq_listAt (e := fun _ => true) (lst_at N ha) (lst_at (vs := [Value.none]) N hb) rfl hu (fun j h1 h2 => ?_) h
  obtain rfl : j = 0 := by simpa using h1
  intro prog w E Q hq
  exact eqGives_none_none _ _ _ _ _ _ hq
theorem eq_none3 {z : Str} {tz : Tok} (N : News h₀ L s.heap nw) (ha : (a, listOf [Value.str z tz].toArray n) ∈ nw) (hb : (b, listOf #[Value.none] k) ∈ nw) (hu : A.units < cLine) (h : Q (.bool false) s) : wpAny (model prog w) A (compareOp .Eq (.ref a) (.ref b)) Q E s := by
  refine PySem.SeqAt.eq_listAt (e := fun _ => false) (lst_at N ha) (lst_at (vs := [Value.none]) N hb) rfl hu (fun j h1 h2 => ?_) h
  obtain rfl : j = 0 := by simpa using h1
  intro prog w E Q hq
  exact eqGives_str_none _ _ _ _ _ _ _ _ hq
theorem eq_noneX {zs : List Value} (hz : zs = [] ∨ ∃ z tz, zs = [.str z tz]) (N : News h₀ L s.heap nw) (ha : (a, listOf zs.toArray n) ∈ nw) (hb : (b, listOf #[Value.none] k) ∈ nw) (hu : A.units < cLine) (h : Q (.bool false) s) : wpAny (model prog w) A (compareOp .Eq (.ref a) (.ref b)) Q E s := by
  rcases hz with rfl | ⟨z, tz, rfl⟩
  · exact eq_none1 N ha hb hu h
  · exact eq_none3 N ha hb hu h
end
/-- between the turns -/
noncomputable def TkJ (x : Str) (items : List (Option Str)) (D : Addr) (oD : Obj) (tl : List (Addr × Obj)) (i : Nat) (m : Str → Option Value) (nx : List (Addr × Obj)) : Prop :=
  ∃ (E : Addr) (ev : List Value) (k : Nat) (ends : List Int), nx = (E, listOf ev.toArray k) :: (D, oD) :: tl ∧ m (Str.ofString "ends") = some (.ref E) ∧ IntsAre ev ends ∧ takesGo x (items.drop i) ends = takesF items x ∧ (∀ e ∈ ends, 0 ≤ e ∧ e ≤ (x.length : Int)) ∧ ends.length ≤ 200
theorem ints_item : ∀ {vs : List Value} {ns : List Int}, IntsAre vs ns → ∀ (i : Nat) (v : Value), vs[i]? = some v → ∃ x t, v = .int x t ∧ ns[i]? = some x
  | _, _, .nil, _, _, h => by simp at h
  | _, _, .cons x t _, 0, v, h => by cases h; exact ⟨x, t, rfl, rfl⟩
  | _, _, .cons _ _ r, i + 1, v, h => ints_item r i v (by simpa using h)
theorem off1_mem {D : Addr} : ∀ {l : List (Addr × Obj)}, Off1 D l → ∀ q ∈ l, q.1 ≠ D
  | [], _, _, h => nomatch h
  | _ :: _, x, q, h => by
    rcases List.mem_cons.mp h with rfl | h
    · exact x.1
    · exact off1_mem x.2 q h
inductive FMs (f : Nat → Bool) (R : Nat → Value → Prop) : Nat → List Value → Prop
  | zero : FMs f R 0 []
  | keep {i ys y} : FMs f R i ys → f i = true → R i y → FMs f R (i + 1) (ys ++ [y])
  | drop {i ys} : FMs f R i ys → f i = false → FMs f R (i + 1) ys
section
open LCt
variable {prog : Program} {w : World} {A : Around} {h₀ : Heap} {L : Addr} {m : Str → Option Value} {env : Env} {ct elt : Expr} {x : Str} {scope : Scope} {cl : List (Str × Addr)} {s : Shared} {S : List (Addr × Obj) → Prop} {P : Nat → Value → Prop} {Fin : List Value → List (Addr × Obj) → Prop} {news : List (Addr × Obj)}
/-- a comprehension with a test whose element is made anew -/
theorem comp_tm (n : Nat) (f : Nat → Bool) (R : Nat → Value → Prop) (hS : S news)
    (ht : ∀ (i : Nat) ys v I oI C oC D m₂ h tk (E' : Value → Shared → Prop), i < n → P i v → NsObj oC m₂ → m₂ x = some v → Fr h₀ L h m → News h₀ L h ((I, oI) :: (C, oC) :: (D, lst ys) :: news) → Off3 I C D news → ((@Ne Nat I C) ∧ (@Ne Nat I D) ∧ (@Ne Nat C D)) →
      wpAny (model prog w) A (isTrue ct (compEnvC scope cl C env) (eval ct (compEnvC scope cl C env))) (fun b s' => b = f i ∧ ∃ h' tk', s' = { s with heap := h', toks := tk' } ∧ Fr h₀ L h' m ∧ News h₀ L h' ((I, oI) :: (C, oC) :: (D, lst ys) :: news)) E' { s with heap := h, toks := tk })
    (he : ∀ (i : Nat) ys v I oI C oC D m₂ h tk (E' : Value → Shared → Prop), i < n → P i v → NsObj oC m₂ → m₂ x = some v → Fr h₀ L h m → News h₀ L h ((I, oI) :: (C, oC) :: (D, lst ys) :: news) → Off3 I C D news → ((@Ne Nat I C) ∧ (@Ne Nat I D) ∧ (@Ne Nat C D)) →
      wpAny (model prog w) A (eval elt (compEnvC scope cl C env)) (fun y s' => ∃ h' tk', s' = { s with heap := h', toks := tk' } ∧ R i y ∧ Fr h₀ L h' m ∧ News h₀ L h' ((I, oI) :: (C, oC) :: (D, lst ys) :: news)) E' { s with heap := h, toks := tk })
    (hfin : ∀ ys, FMs f R n ys → Fin ys news) : CompRestT prog w A h₀ L m env ct elt x scope cl s S P Fin n 0 [] news := by
  have main : ∀ k i ys, i + k = n → FMs f R i ys → CompRestT prog w A h₀ L m env ct elt x scope cl s S P Fin k i ys news := by
    intro k
    induction k with
    | zero =>
      intro i ys hk hy
      have e : i = n := hk
      subst e
      exact .zero (hfin ys hy)
    | succ k ih =>
      intro i ys hk hy
      have hi : i < n := by omega
      refine .succ fun v I oI C oC D m₂ h tk E' hPv hC hx F N off ne => ?_
      refine wpAny_mono (ht i ys v I oI C oC D m₂ h tk E' hi hPv hC hx F N off ne) (fun b s' h' => ?_) fun _ _ e => e
      refine Classical.byContradiction fun hng9 => ?_
      obtain ⟨rfl, h₁, tk₁, rfl, F₁, N₁⟩ := h'
      refine hng9 ?_
      clear hng9
      by_cases hf : f i = true
      · rw [if_pos hf]
        refine wpAny_mono (he i ys v I oI C oC D m₂ h₁ tk₁ E' hi hPv hC hx F₁ N₁ off ne) (fun y s' h' => ?_) fun _ _ e => e
        refine Classical.byContradiction fun hng9 => ?_
        obtain ⟨h₂, tk₂, rfl, hR, F₂, N₂⟩ := h'
        refine hng9 ?_
        clear hng9
        exact ⟨h₂, tk₂, news, rfl, F₂, N₂, off, hS, ih (i + 1) _ (by omega) (.keep hy hf hR)⟩
      · rw [if_neg hf]
        exact ⟨h₁, tk₁, news, rfl, F₁, N₁, off, hS, ih (i + 1) _ (by omega) (.drop hy (by simpa using hf))⟩
  exact main n 0 [] (Nat.zero_add _) .zero
end
/-- a table of texts as a dict has it -/
inductive Tab3 : List (Str × Str) → List (Str × Value) → Prop
  | nil : Tab3 [] []
  | cons {x y : Str} {t : Tok} {r : List (Str × Str)} {r' : List (Str × Value)} (h : Tab3 r r') : Tab3 ((x, y) :: r) ((x, .str y t) :: r')
theorem Tab3.at {x : Str} {t' : Tok} : ∀ {tab : List (Str × Str)} {kvs : List (Str × Value)}, Tab3 tab kvs → ∃ u, (valueAt kvs x).getD (.str (Str.ofString "") t') = .str (((tab.find? fun q => q.1 == x).map (·.2)).getD (Str.ofString "")) u
  | _, _, .nil => ⟨t', rfl⟩
  | _, _, .cons (x := y) (t := t) h => by
    unfold valueAt
    rw [List.find?_cons, List.find?_cons]
    by_cases e : y = x
    · rw [show (y == x) = true from beq_iff_eq.mpr e, show (decide (y = x)) = true from decide_eq_true e]
      exact ⟨t, rfl⟩
    · rw [show (y == x) = false from beq_eq_false_iff_ne.mpr e, show (decide (y = x)) = false from decide_eq_false e]
      exact h.at
theorem Tab3.of {prog : Program} {w : World} {o : Obj} {kvs : List (Str × Value)} (hd : o.IsDictOf (PySem.strKind prog w) kvs) (h : Tab3 sgnT kvs) : ∃ kvs, o.IsDictOf (PySem.strKind prog w) kvs ∧ ∀ y t', ∃ u, (valueAt kvs y).getD (.str (Str.ofString "") t') = .str (sgnOf y) u :=
  ⟨kvs, hd, fun _ _ => h.at⟩
section
variable {prog : Program} {w : World} {A : Around} {E : Value → Shared → Prop} {s : Shared} {h₀ : Heap} {L d : Addr} {nw : List (Addr × Obj)} {o : Obj} {kvs : List (Str × Value)}
theorem sg_get {y : Str} {t t' : Tok} {Q : Value → Shared → Prop} (hsg : ∀ y t', ∃ u, (valueAt kvs y).getD (.str (Str.ofString "") t') = .str (sgnOf y) u) (N : News h₀ L s.heap nw) (hm : (d, o) ∈ nw) (hd : o.IsDictOf (PySem.strKind prog w) kvs) (lo : (d == sysModules) = false)
    (h : ∀ u, Q (.str (sgnOf y) u) { s with toks := s.toks + 1 }) : wpAny (model prog w) A (call (.builtin "dict.get") [.ref d, .str y t, .str (Str.ofString "") t']) Q E s :=
  kdg_get2 N hm hd lo (beq_self_eq_true _) _ rfl (by obtain ⟨u, hu⟩ := hsg y t'; rw [hu]; exact h u)
end
theorem ok_t1 {x y : Str} {e : Int} (h : e < (x.length : Int)) (h2 : (Builtin.Str.occurrences (sgnOf y) (Txt.item x e) 0 (sgnOf y).length 1).isEmpty = true) : false = okAt x y e := by unfold okAt Txt.contains; rw [decide_eq_true h, h2]; rfl
theorem ok_t2 {x y : Str} {e : Int} (h : e < (x.length : Int)) (h2 : (Builtin.Str.occurrences (sgnOf y) (Txt.item x e) 0 (sgnOf y).length 1).isEmpty = false) : true = okAt x y e := by unfold okAt Txt.contains; rw [decide_eq_true h, h2]; rfl
theorem ok_f {x y : Str} {e : Int} (h : ¬ e < (x.length : Int)) : false = okAt x y e := by unfold okAt; rw [decide_eq_false h]; rfl
theorem fms_ints {f : Nat → Bool} {R : Nat → Value → Prop} {ends : List Int} {g : Int → Bool} (hf : ∀ i (h : i < ends.length), f i = g ends[i]) (hR : ∀ i v (h : i < ends.length), R i v → ∃ u, v = .int (ends[i] + 1) u) : ∀ {n ys}, FMs f R n ys → n ≤ ends.length → IntsAre ys (((ends.take n).filter g).map (· + 1))
  | _, _, .zero, _ => .nil
  | _, _, .keep (i := i) h h1 h2, hn => by
    have ih := fms_ints hf hR h (Nat.le_of_succ_le hn)
    obtain ⟨u, rfl⟩ := hR i _ hn h2
    rw [hf i hn] at h1
    rw [List.take_add_one, List.getElem?_eq_getElem hn, List.filter_append, List.map_append]
    show IntsAre _ (_ ++ ([ends[i]].filter g).map _)
    rw [List.filter_cons_of_pos h1]
    exact ksk_snoc ih
  | _, _, .drop (i := i) h h1, hn => by
    have ih := fms_ints hf hR h (Nat.le_of_succ_le hn)
    rw [hf i hn] at h1
    rw [List.take_add_one, List.getElem?_eq_getElem hn, List.filter_append, List.map_append]
    show IntsAre _ (_ ++ ([ends[i]].filter g).map _)
    rw [List.filter_cons_of_neg (by rw [h1]; exact Bool.false_ne_true)]
    simpa using ih
/-- a turn's end -/
theorem tk_end {h₀ h : Heap} {L c D E E1 : Addr} {own nw tl : List (Addr × Obj)} {x : Str} {items : List (Option Str)} {oD o₁ o1' : Obj} {v : Option Value} {m' : Str → Option Value} {ev : List Value} {k : Nat} {ends : List Int} {i : Nat} {s : Shared} {tk : Nat}
    (F : Fr h₀ L h m') (N : News h₀ L h nw) (hme : m' (Str.ofString "ends") = some (.ref E)) (hc : (c, o₁) ∈ nw) (ho : o₁.data = .cell v) (hE : (E, listOf ev.toArray k) ∈ nw) (htl : ∀ p ∈ (D, oD) :: tl, p ∈ nw) (hown : ∀ p ∈ own, p ∈ nw)
    (hoff : OwnOff own (c :: ((E1, o1') :: (D, oD) :: tl).map (·.1))) (hl : ∀ p ∈ (c, o₁) :: (E1, o1') :: (D, oD) :: (tl ++ own), p.1 ≠ E) (hnc : ∀ p ∈ (E1, o1') :: (D, oD) :: tl, p.1 ≠ c) (hI : IntsAre ev ends) (hgo : takesGo x (items.drop (i + 1)) ends = takesF items x)
    (hbd : ∀ e ∈ ends, 0 ≤ e ∧ e ≤ (x.length : Int)) (hel : ends.length ≤ 200) : CellE h₀ L c own (TkJ x items D oD tl (i + 1)) s { s with heap := h, toks := tk } := by
  refine ⟨h, tk, m', nw, (E, listOf ev.toArray k) :: (D, oD) :: tl, o₁, v, rfl, F, N, hc, ho, List.forall_mem_cons.mpr ⟨hE, htl⟩, hown, fun p hp b hb => ?_, List.forall_mem_cons.mpr ⟨Ne.symm (hl _ (.head _)), fun p hp => hnc p (.tail _ hp)⟩, E, ev, k, ends, rfl, hme, hI, hgo, hbd, hel⟩
  rcases List.mem_cons.mp hb with rfl | hb
  · exact hoff p hp _ (.head _)
  · rcases List.mem_cons.mp hb with rfl | hb
    · exact hl p (.tail _ (.tail _ (.tail _ (List.mem_append.mpr (.inr hp)))))
    · exact hoff p hp b (.tail _ (.tail _ hb))
theorem mw_M4_0 : True := by
  k_with_none
  trivial
theorem mw_M4_1 : True := by
  (k_with "Mdrop" => first | assumption | (refine' cb_drop ?cbN ?cbS; (case cbN => assumption); (case cbS => kcj_all)))
  (k_with "Mmem" => k_dflt (repeat (first | exact List.Mem.head _ | refine List.Mem.tail _ ?_)))
  (k_with "Mnews" => k_dflt (repeat (first | assumption | exact List.mem_append_left _ (by assumption) | exact List.mem_append_right _ (by assumption) | refine List.Mem.tail _ ?_)))
  trivial
theorem mw_M4_2 : True := by
  (k_with "call builtin:len" => (k_here; k_dflt (refine' len_vals ?u1 ?u2 ?u3 ?_; (case u1 => k_asm); (case u2 => walk_at "Mnews"); (case u3 => omega); k_whole)))
  (k_with "call type:range" => ((with_reducible show wpAny _ _ (call _ [_]) _ _ _); k_dflt (refine' range1_rows ?u1 ?u2 ?_; (case u1 => k_asm); (case u2 => k_asm); k_whole); intro _ _ _ _ _ _ _ _ _))
  (k_with "exec For Name Call cons nil" => (refine stuck_at ?_))
  (k_with "subscriptTail Name Name ref int" => (k_here; (with_reducible show wpAny _ _ (subscriptTail _ _ (Value.ref _) (Value.int _ _)) _ _ _); k_dflt (refine' item_vals i ?k1 ?k2 ?k3 ?k4 hv9 ?_; (case k1 => k_asm); (case k2 => walk_at "Mnews"); (case k3 => omega); (case k4 => omega); k_whole)))
  (k_with "subscriptTail Name Slice ref ref" => (refine stuck_at ?_))
  (k_with "compareOp Eq ref ref" => (k_here; (with_reducible show wpAny _ _ (compareOp CmpOp.Eq (Value.ref _) (Value.ref _)) _ _ _); k_dflt (first
    | (refine' eq_noneX (by assumption) ?k1 ?k2 ?k3 ?k4 ?_; (case k1 => k_asm); (case k2 => exact List.Mem.tail _ (List.Mem.head _)); (case k3 => exact List.Mem.head _); (case k4 => units_room); k_whole)
    | (refine' eq_none1 ?k1 ?k2 ?k3 ?k4 ?_; (case k1 => k_asm); (case k2 => exact List.Mem.tail _ (List.Mem.head _)); (case k3 => exact List.Mem.head _); (case k4 => units_room); k_whole)
    | (refine' eq_none2 ?k1 ?k2 ?k3 ?k4 ?_; (case k1 => k_asm); (case k2 => exact List.Mem.tail _ (List.Mem.head _)); (case k3 => exact List.Mem.head _); (case k4 => units_room); k_whole)
    | (refine' eq_none3 ?k1 ?k2 ?k3 ?k4 ?_; (case k1 => k_asm); (case k2 => exact List.Mem.tail _ (List.Mem.head _)); (case k3 => exact List.Mem.head _); (case k4 => units_room); k_whole)
    | (refine' eq_nil ?k1 ?k2 ?k3 ?k4 ?_; (case k1 => k_asm); (case k2 => k_mem); (case k3 => exact List.Mem.head _); (case k4 => units_room); k_whole))))
  (k_with "call builtin:dict.get" => (k_here; k_dflt (refine' sg_get hsg ?k1 ?k2 hkd loD ?_; (case k1 => k_asm); (case k2 => walk_at "Mmem"); k_whole); intro _))
  (k_with "getMethod ref" => (k_here; k_dflt (refine' kdg_method ?k1 ?k2 hkd ?_; (case k1 => k_asm); (case k2 => walk_at "Mmem"); k_whole)))
  (k_with "CompSrcT" => (refine stuck_at ?_))
  (k_with "eval ListComp" => (k_here; k_dflt (refine LCt.ListComp_T (F₀ := by k_asm) (by rfl) (by decide) (by rfl) (by decide) (by rfl) ?_)))
  (k_with "CellR" => (refine stuck_at ?_))
  trivial
local macro_rules | `(tactic| k_all) => `(tactic| assumption)
theorem takes_does (w : World) (mean : ExcName → Option Value) (mg mb : Str → Option Value) (news : List (Addr × Obj)) (I0 : Addr) (iv : List Value) (ik : Nat) (items : List (Option Str)) (x : Str) (t : Tok) (hS : OutAre iv items) (hm : (I0, listOf iv.toArray ik) ∈ news) (hn : items.length ≤ 200) (hx : x.length ≤ 100) :
  Does PySem.Challenge.rw_rx0110_01.row.prog w (hd.heap_39 w.params) topProg (looseW hd.view_39 [Str.ofString "_twin_re_1", Str.ofString "_special_chars_map"] ++ (recsOf hd.view_39).map (fun x => x.name) ++ (litsOf hd.view_39).map (fun x => x.1) ++ (clssOf hd.view_39 (looseW hd.view_39 [Str.ofString "_twin_re_1", Str.ofString "_special_chars_map"])).map (fun x => x.name)) mean mg mb 189 1 news [Value.ref I0, Value.str x t] (fun n r => n = news ∧ r = .bool (takesF items x)) := by
  k_fill
  unfold Does
  intro dp un gd cn cs a ccd cl outer A₀ base h₀ L m s Q E B F X N T hk hd hu hret
  refine wpAny_call ?_
  k_dflt (refine' code_defC ?k1 ?k2 ?k3 ?k4 ?k5 ?kA ?kF ?kK ?k6 ?k7 ?k8 ?k9 ?kB ?kD ?_ ?c2 ?c3 ?c4; (case kA => exact rfl); (case kF => exact rfl); (case kK => assumption); (case k1 => k_asm); (case k2 => k_asm); (case k3 => k_asm); (case k4 => k_asm); (case k5 => k_asm); (case k6 => k_is); (case k7 => k_is); (case k8 => first | ktr_room | k_room | exact Nat.lt_of_le_of_lt (Nat.le_of_eq (rfl : _ = dp)) (by omega)); (case k9 => exact BindsTo.of_eq rfl); (case kB => exact rfl); (case kD => decide +kernel); (case c2 => exact rfl); (case c3 => exact rfl); (case c4 => exact rfl); k_whole; intro g' L' h' tk' cells' FG' F' N' Y' B' X' T' l1; (try k_lt l1); k_cells Y'; (try simp only [List.cons_append, List.nil_append] at N'); (try dsimp only); (try k_lift B'); (try k_fold))
  have hpl : iv.length ≤ 200 := by rw [hS.len]; omega
  rename_i ok os on oi d1 d2 d3 d4
  replace d1 : ok.data = .cell none := d1
  replace d2 : os.data = .cell none := d2
  replace d3 : on.data = .cell (some (.str x t)) := d3
  replace d4 : oi.data = .cell (some (.ref I0)) := d4
  have hS3 : ∀ p ∈ (L' + 1 + 1, on) :: (L' + 1, oi) :: news, p.1 ≠ L' + 1 + 1 + 1 := by
    intro p hp
    rcases List.mem_cons.mp hp with rfl | hp
    · exact Nat.ne_of_lt (Nat.lt_succ_self _)
    · rcases List.mem_cons.mp hp with rfl | hp
      · exact Nat.ne_of_lt (Nat.lt_succ_of_lt (Nat.lt_succ_self _))
      · exact Nat.ne_of_lt (Nat.lt_succ_of_lt (Nat.lt_succ_of_lt (Nat.lt_succ_of_lt (l1 p hp))))
  k_steps
  rename_i hD0 oD loD hdD hfD apD lD hD1 os2 ds E0 hE0 lE hE1 FE NE
  unfold Stuck
  refine for_cell (h₀ := g') (L := L') (c := L' + 1 + 1 + 1 + 1) (by rfl) (by rfl) (by rfl) ?_
  (k_unmd)
  k_steps
  rename_i hR tkR tR uR vR RR FR NR KR
  unfold Stuck
  obtain ⟨D, hDz⟩ : ∃ D, D = h'.objs.size := ⟨_, rfl⟩
  rw [← hDz] at NR lE lD
  obtain ⟨ts, NR2⟩ : ∃ ts, News g' L' hR ((L' + 1 + 1 + 1 + 1, ok) :: (E0, listOf [Value.int 0 ts].toArray 0) :: (D, oD) :: (L' + 1 + 1 + 1, os2) :: (L' + 1 + 1, on) :: (L' + 1, oi) :: news) :=
    ⟨_, cb_drop NR (List.forall_mem_cons.mpr ⟨.tail _ (.tail _ (.head _)), List.forall_mem_cons.mpr ⟨.head _, List.forall_mem_cons.mpr ⟨.tail _ (.head _), fun p hp => .tail _ (.tail _ (.tail _ hp))⟩⟩⟩)⟩
  have hK4 : ∀ p ∈ (E0, listOf [Value.int 0 ts].toArray 0) :: (D, oD) :: (L' + 1 + 1 + 1, os2) :: (L' + 1 + 1, on) :: (L' + 1, oi) :: news, p.1 ≠ L' + 1 + 1 + 1 + 1 :=
    List.forall_mem_cons.mpr ⟨Nat.ne_of_gt lE.2.1, List.forall_mem_cons.mpr ⟨Nat.ne_of_gt lD.1, List.forall_mem_cons.mpr ⟨Nat.ne_of_lt (Nat.lt_succ_self _), List.forall_mem_cons.mpr ⟨Nat.ne_of_lt (Nat.lt_succ_of_lt (Nat.lt_succ_self _)), List.forall_mem_cons.mpr ⟨Nat.ne_of_lt (Nat.lt_succ_of_lt (Nat.lt_succ_of_lt (Nat.lt_succ_self _))),
      fun p hp => Nat.ne_of_lt (Nat.lt_succ_of_lt (Nat.lt_succ_of_lt (Nat.lt_succ_of_lt (Nat.lt_succ_of_lt (l1 p hp)))))⟩⟩⟩⟩⟩
  replace ds : os2.data = .cell (some (.ref D)) := by rw [hDz]; exact ds
  rw [← hDz] at loD
  refine Classical.byContradiction fun hng9 => ?_
  obtain ⟨kvs, hkd, hsg⟩ := Tab3.of hdD (.cons (.cons (.cons (.cons (.cons (.cons (.cons (.cons (.cons .nil)))))))))
  refine hng9 ?_
  clear hng9
  clear NR NE hS3 hdD hfD apD
  refine cellR_mk (n := items.length) (TkJ x items D oD ((L' + 1 + 1 + 1, os2) :: (L' + 1 + 1, on) :: (L' + 1, oi) :: news)) (o := ok) (v := none) rfl RR ?s1 ?s2 FR NR2 hK4 d1 ?s5 ?turn ?done
  (case s1 => exact small_one (by omega) (by omega) (by omega) (by omega))
  (case s2 => rw [hS.len]; exact (rangeSize_nat _ _).trans (by omega))
  (case s5 => exact ⟨E0, _, 0, [0], rfl, rfl, .cons _ _ .nil, rfl, (fun e he => by rw [List.mem_singleton.mp he]; omega), by decide⟩)
  (case turn =>
    intro i m₁ nx₁ h9 tk9 own o₁ t9 hi hJ hoff hnc ho₁ F9 N9
    refine Classical.byContradiction fun hng9 => ?_
    obtain ⟨E, ev, k, ends, rfl, hme, hev, hgo, hbd, hel⟩ := hJ
    refine hng9 ?_
    clear hng9
    have hdr : items.drop i = items[i] :: items.drop (i + 1) := List.drop_eq_getElem_cons hi
    have F9' := fr_know F9 hme
    clear F9
    simp only [List.cons_append] at N9
    rcases hS.at i hi with ⟨hv9, hit⟩ | ⟨y, ty, hv9, hit⟩
    · (k_unmd)
      (try k_fold)
      k_steps
      unfold Stuck
      have hit' : items[i] = none := (List.getElem?_eq_some_iff.mp hit).2
      rw [hdr, hit'] at hgo
      rcases one_of hS (i + 1) with ⟨hz, hd⟩ | ⟨zs, hz, hzs, hd⟩
      · refine' kmk_slice_lit (zs := [Value.none]) ?F ?N ?l (IsPart.int _ _) (IsPart.int _ _) ((congrArg Array.toList (mid_one iv (i + 1))).trans hz) ?_ ?s ?t ?z
        (case F => k_asm)
        (case N => k_asm)
        (case l => exact News.isList (by k_asm) (by walk_at "Mnews"))
        (case s => with_unfolding_all rfl)
        (case t => kmk_pure)
        (case z => rw [List.size_toArray, sizeLine_eq]; omega)
        intro D5 h5 F5 N5 l5
        (k_unmd)
        k_steps
        dsimp only
        k_unfold
        unfold CellP
        dsimp only
        k_steps
        have e9 : takesF items x = false := by rw [← hgo, takesGo, hd]; rfl
        rw [e9] at hret
        exact hret _ _ _ _ ⟨rfl, rfl⟩ (by assumption) (cb_drop (by assumption) fun p hp => by walk_at "Mnews")
      · refine' kmk_slice_lit (zs := zs) ?F ?N ?l (IsPart.int _ _) (IsPart.int _ _) ((congrArg Array.toList (mid_one iv (i + 1))).trans hz) ?_ ?s ?t ?z
        (case F => k_asm)
        (case N => k_asm)
        (case l => exact News.isList (by k_asm) (by walk_at "Mnews"))
        (case s => with_unfolding_all rfl)
        (case t => kmk_pure)
        (case z => rw [List.size_toArray, sizeLine_eq]; omega)
        intro D5 h5 F5 N5 l5
        cases hev with
        | nil =>
          (k_unmd)
          k_steps
          dsimp only
          k_unfold
          unfold CellP
          dsimp only
          k_steps
          have e9 : takesF items x = false := by rw [← hgo]; simp [takesGo]
          rw [e9] at hret
          exact hret _ _ _ _ ⟨rfl, rfl⟩ (by assumption) (cb_drop (by assumption) fun p hp => by walk_at "Mnews")
        | cons a0 t0 r0 =>
          have ha0 := hbd a0 (.head _)
          (k_unmd)
          k_steps
          rename IsRange _ _ _ _ _ _ _ _ => hRR
          k_dflt (refine' list_range_vals (a0 := a0) (m9 := ((x.length : Int) + 1 - a0).toNat) rfl ?F ?N hRR ?s1 ?s2 ?s3 ?_)
          (case F => k_asm)
          (case N => k_asm)
          (case s1 => exact small_one (by omega) (by omega) (by omega) (by omega))
          (case s2 => exact rangeSize_nat _ _)
          (case s3 => omega)
          intro D7 ys7 k7 h7 tk7 F7 N7 l7 hI7
          (k_unmd)
          k_steps
          unfold CellP
          dsimp only
          refine tk_end (by assumption) (by assumption) rfl (by walk_at "Mmem") ho₁ (.head _) (List.forall_mem_cons.mpr ⟨by walk_at "Mmem", List.forall_mem_cons.mpr ⟨by walk_at "Mmem", List.forall_mem_cons.mpr ⟨by walk_at "Mmem", List.forall_mem_cons.mpr ⟨by walk_at "Mmem", fun p hp => by walk_at "Mnews"⟩⟩⟩⟩) (fun p hp => by walk_at "Mnews") hoff (fun p hp => Nat.ne_of_lt (l7 p (.tail _ (.tail _ (.tail _ hp))))) hnc hI7 ?_ ?_ ?_
          · rw [← hgo, takesGo, if_neg (fun hh => by rw [show ((items.drop (i + 1)).head? == some none) = false from beq_eq_false_iff_ne.mpr hd, Bool.false_or] at hh; cases hh)]; rfl
          · intro e he
            refine Classical.byContradiction fun hng9 => ?_
            obtain ⟨j, hj, rfl⟩ := List.mem_map.mp he
            refine hng9 ?_
            clear hng9
            have := List.mem_range.mp hj
            omega
          · rw [rangeInts_length]; omega
    · (k_unmd)
      (try k_fold)
      k_steps
      unfold Stuck
      have hit' : items[i] = some y := (List.getElem?_eq_some_iff.mp hit).2
      rw [hdr, hit'] at hgo
      have hevl : ev.length = ends.length := hev.length
      refine LCt.CompSrcT.ledger rfl F9' N9 (.tail _ (.head _)) (by rw [List.size_toArray, sizeLine_eq]; omega) ?_
      intro g9
      rw [List.size_toArray]
      refine comp_tm ev.length (fun j => okAt x y (ends.getD j 0)) (fun j v => ∃ u, v = .int (ends.getD j 0 + 1) u) (.inr ⟨_, .tail _ (.head _), rfl, _, rfl⟩) ?_ ?_ ?_
      · intro j zs v I oI C oC D2 m2 h2 tk2 E2 hj hv hC hx2 F2 N2 off ne
        refine Classical.byContradiction fun hng9 => ?_
        obtain ⟨e, te, rfl, he⟩ := ints_item hev j v (by simpa using hv)
        refine hng9 ?_
        clear hng9
        have hed : ends.getD j 0 = e := by simp [List.getD, he]
        have hbe := hbd e (List.mem_of_getElem? he)
        rw [hed]
        (try k_unmd)
        (try k_fold)
        k_steps
        all_goals first | assumption | exact ok_t1 (by assumption) (by assumption) | exact ok_t2 (by assumption) (by assumption) | exact ok_f (by assumption) | walk_at "Mdrop"
      · intro j zs v I oI C oC D2 m2 h2 tk2 E2 hj hv hC hx2 F2 N2 off ne
        refine Classical.byContradiction fun hng9 => ?_
        obtain ⟨e, te, rfl, he⟩ := ints_item hev j v (by simpa using hv)
        refine hng9 ?_
        clear hng9
        have hed : ends.getD j 0 = e := by simp [List.getD, he]
        have hbe := hbd e (List.mem_of_getElem? he)
        rw [hed]
        (try k_unmd)
        (try k_fold)
        k_steps
        all_goals first | assumption | exact ⟨_, rfl⟩ | walk_at "Mdrop"
      · intro zs hzs
        have hZ := fms_ints (ends := ends) (g := okAt x y) (fun j h => by simp [List.getD, h]) (fun j v h hR => by obtain ⟨u, rfl⟩ := hR; exact ⟨u, by simp [List.getD, h]⟩) hzs (by omega)
        rw [hevl, List.take_length] at hZ
        unfold FinA
        intro D7 h7 tk7 F7 N7 o7
        dsimp only
        (k_unmd)
        k_steps
        unfold CellP
        dsimp only
        have o8 := off1_mem o7
        refine tk_end (k := zs.length) (by assumption) N7 rfl (.tail _ (.head _)) ho₁ (.head _) (List.forall_mem_cons.mpr ⟨by walk_at "Mmem", List.forall_mem_cons.mpr ⟨by walk_at "Mmem", List.forall_mem_cons.mpr ⟨by walk_at "Mmem", List.forall_mem_cons.mpr ⟨by walk_at "Mmem", fun p hp => by walk_at "Mnews"⟩⟩⟩⟩) (fun p hp => by walk_at "Mnews") hoff (fun p hp => o8 p hp) hnc hZ hgo ?_ ?_
        · intro e he
          refine Classical.byContradiction fun hng9 => ?_
          obtain ⟨e0, he0, rfl⟩ := List.mem_map.mp he
          refine hng9 ?_
          clear hng9
          have h1 := List.mem_filter.mp he0
          have h2 := hbd e0 h1.1
          have h3 := h1.2
          unfold okAt at h3
          rw [Bool.and_eq_true, decide_eq_true_eq] at h3
          omega
        · rw [List.length_map]
          exact Nat.le_trans (List.length_filter_le _ _) hel)
  (case done =>
    intro m₁ nx₁ h9 tk9 o₁ v₁ hJ hnc ho₁ F9 N9
    refine Classical.byContradiction fun hng9 => ?_
    obtain ⟨E, ev, k, ends, rfl, hme, hev, hgo, hbd, hel⟩ := hJ
    refine hng9 ?_
    clear hng9
    rw [List.drop_length] at hgo
    have F9' := fr_know F9 hme
    clear F9
    (k_unmd)
    dsimp only
    k_steps
    exact hret _ _ _ _ ⟨rfl, congrArg Value.bool hgo⟩ (by assumption) (cb_drop (by assumption) fun p hp => by walk_at "Mnews"))
end

section
open PySem PySem.W PyProof.Rows PySem.Calls PyProof.Rows.LCg
/-! a comprehension whose element reads one text by a function that may fill the code table -/
theorem tab_sub {posL : Pos} {q : Str} {l l' : List (Addr × Obj)} {tb : Array Value} (h : TabOk posL q l tb) (hs : ∀ p ∈ l, p ∈ l') : TabOk posL q l' tb :=
  ⟨h.tri, h.lam.imp id fun ⟨c, oc, vs, t, a, b, c2, d⟩ => ⟨c, oc, vs, t, a, hs _ b, c2, d⟩⟩
section
variable {prog : Program} {w : World} {A : Around} {E : Value → Shared → Prop} {s₁ : Shared} {h₀ : Heap} {L : Addr} {m : Str → Option Value} {env : Env} {elt : Expr} {x : Str} {scope : Scope} {cl : List (Str × Addr)} {Q : Value → Shared → Prop} {posL : Pos} {qual : Str}
end
end

section
open PySem PySem.W PyProof.Rows PySem.Calls PyProof.Rows.LCg
theorem tab_cell {h₀ h : Heap} {L c : Addr} {posL : Pos} {q : Str} {ex rest : List (Addr × Obj)} {tb : Array Value} {o : Obj} {v : Option Value} (N : News h₀ L h (ex ++ (c, o) :: rest)) (ho : o.data = .cell v) (hT : TabOk posL q (ex ++ (c, o) :: rest) tb) :
    ∃ ex', (∀ p ∈ ex', p ∈ ex) ∧ (∀ p ∈ ex', p.1 ≠ c) ∧ TabOk posL q (ex' ++ rest) tb := by
  refine ⟨ex.filter fun p => decide (@Ne Nat p.1 c), fun p hp => (List.mem_filter.mp hp).1, fun p hp => of_decide_eq_true (List.mem_filter.mp hp).2, ?_⟩
  have ec := (N (c, o) (List.mem_append.mpr (.inr (.head _)))).1
  refine ⟨hT.tri, hT.lam.imp id fun ⟨c2, oc, vs, t, a, b, c3, d⟩ => ⟨c2, oc, vs, t, a, ?_, c3, d⟩⟩
  have e2 := (N _ b).1
  rcases List.mem_append.mp b with b | b
  · refine List.mem_append.mpr (.inl (List.mem_filter.mpr ⟨b, decide_eq_true fun e => ?_⟩))
    have e' : c2 = c := e
    rw [show ((c2, oc) : Addr × Obj).1 = c from e'] at e2
    cases (Option.some.inj (e2.symm.trans ec)); rw [ho] at c3; cases c3
  · rcases List.mem_cons.mp b with e | b
    · cases e; rw [ho] at c3; cases c3
    · exact List.mem_append.mpr (.inr b)
noncomputable def namesT : List Str := [Str.ofString "a", Str.ofString "b", Str.ofString "ab"]
noncomputable def takenF (items : List (Option Str)) : List Str := namesT.filter (takesF items)
theorem mw_M5_0 : True := by
  k_with_none
  trivial
theorem mw_M5_1 : True := by
  (k_with "Mdrop" => first | assumption | (refine' cb_drop ?cbN ?cbS; (case cbN => assumption); (case cbS => kcj_all)))
  (k_with "Mmem" => k_dflt (repeat (first | exact List.Mem.head _ | refine List.Mem.tail _ ?_)))
  (k_with "Mnews" => k_dflt (repeat (first | assumption | exact List.mem_append_left _ (by assumption) | exact List.mem_append_right _ (by assumption) | refine List.Mem.tail _ ?_)))
  (k_with "Muse" => (
        (case k1 => first | k_asm | ktn_no "use: the frames below")
        (case k2 => first | k_asm | ktn_no "use: the frame")
        (case k3 => first | k_asm | ktn_no "use: the written part")
        (case k4 => first | k_asm | ktn_no "use: the ledger")
        (case k5 => first | k_asm | ktn_no "use: the top's facts")
        (case k6 => first | exact rfl | assumption | ktn_no "use: the caller is no def")
        (case k7 => first | ktr_room | ktn_no "use: the frames' room")
        (case k8 => first | ktr_units | ktn_no "use: the C units")))
  trivial
theorem mw_M5_2 : True := by
  (k_with "call ref" => ((with_reducible show wpAny _ _ (call (Value.ref 177) _) _ _ _); (refine stuck_at ?_)))
  (k_with "call ref" => ((with_reducible show wpAny _ _ (call (Value.ref 189) _) _ _ _); k_here; k_dflt (refine' Does.use ?k1 ?k2 ?k3 ?k4 ?k5 ?k6 ?k7 ?k8 (by assumption) ?_; walk_at "Muse"; k_whole); intro _ _ _ _ hR' _ _; obtain ⟨rfl, rfl⟩ := hR'; (try dsimp only); (try k_fold)))
  (k_with "CompSrcT" => (refine stuck_at ?_))
  (k_with "eval ListComp" => (k_here; k_dflt (refine LCt.ListComp_T (F₀ := by k_asm) (by rfl) (by decide) (by rfl) (by decide) (by rfl) ?_)))
  trivial
local macro_rules | `(tactic| k_all) => `(tactic| assumption)
theorem taken_does (w : World) (mean : ExcName → Option Value) (mg mb : Str → Option Value) (rest : List (Addr × Obj)) (tb : Array Value) (x : Str) (t : Tok) (hx : x.length ≤ 100) (h172 : ∀ q ∈ rest, q.1 ≠ 172)
  (fin : List (Option Str)) (htr : trF x (x.length + 1) 0 [] = some fin) (hfl : fin.length ≤ 200) (hT : TabOk posL (Str.ofString "_translate.<locals>.<lambda>") rest tb) :
  DoesG PySem.Challenge.rw_rx0110_01.row.prog w (hd.heap_39 w.params) topProg (looseW hd.view_39 [Str.ofString "_twin_re_1", Str.ofString "_special_chars_map"] ++ (recsOf hd.view_39).map (fun x => x.name) ++ (litsOf hd.view_39).map (fun x => x.1) ++ (clssOf hd.view_39 (looseW hd.view_39 [Str.ofString "_twin_re_1", Str.ofString "_special_chars_map"])).map (fun x => x.name)) mean mg mb 194 5 ((172, tabObj tb) :: rest) [Value.str x t]
    (fun n r => ∃ D vs k tb' ex, r = .ref D ∧ n = (D, listOf vs.toArray k) :: (172, tabObj tb') :: (ex ++ rest) ∧ StrsAre vs (takenF fin) ∧ TabOk posL (Str.ofString "_translate.<locals>.<lambda>") (ex ++ rest) tb' ∧ (∀ q ∈ ex, q.1 ≠ 172 ∧ q.1 ≠ D) ∧ D ≠ 172 ∧ ∀ q ∈ rest, q.1 ≠ D) := by
  k_fill
  unfold DoesG
  intro dp un gd cn cs a ccd cl outer A₀ base h₀ L m s oo Q E B F X N T hk hd hu hBB hret
  refine wpAny_call ?_
  k_dflt (refine' code_defC ?k1 ?k2 ?k3 ?k4 ?k5 ?kA ?kF ?kK ?k6 ?k7 ?k8 ?k9 ?kB ?kD ?_ ?c2 ?c3 ?c4; (case kA => exact rfl); (case kF => exact rfl); (case kK => assumption); (case k1 => k_asm); (case k2 => k_asm); (case k3 => k_asm); (case k4 => k_asm); (case k5 => k_asm); (case k6 => k_is); (case k7 => k_is); (case k8 => ktr_room); (case k9 => exact BindsTo.of_eq rfl); (case kB => exact rfl); (case kD => decide +kernel); (case c2 => exact rfl); (case c3 => exact rfl); (case c4 => exact rfl); k_whole; intro g' L' h' tk' cells' FG' F' N' Y' B' X' T' l1; k_cells Y'; (try simp only [List.cons_append, List.nil_append] at N'); (try dsimp only); (try k_lift B'); (try k_fold))
  rename_i oc d1
  replace d1 : oc.data = .cell none := d1
  k_steps
  unfold Stuck
  have l172 : @LT.lt Nat _ 172 L' := l1 _ (.head _)
  have N2 : News g' L' h' ((172, tabObj tb) :: (L' + 1, oc) :: rest) := cb_drop N' (List.forall_mem_cons.mpr ⟨.tail _ (.head _), List.forall_mem_cons.mpr ⟨.head _, fun p hp => .tail _ (.tail _ hp)⟩⟩)
  have hrest : ∀ q ∈ rest, q.1 ≠ L' + 1 := fun q hq => Nat.ne_of_lt (Nat.lt_succ_of_lt (l1 q (.tail _ hq)))
  refine' DoesG.use ?k1 ?k2 ?k3 ?k4 ?k5 ?k6 ?k7 ?k8 (translate_does _ _ _ _ ((L' + 1, oc) :: rest) tb _ _ _ (by omega) (List.forall_mem_cons.mpr ⟨Nat.ne_of_gt (Nat.lt_succ_of_lt l172), h172⟩) fin htr (tab_sub hT fun p hp => .tail _ hp)) ?_
  (case k1 => k_asm)
  (case k2 => k_asm)
  (case k3 => k_asm)
  (case k4 => exact N2)
  (case k5 => k_asm)
  (case k6 => exact rfl)
  (case k7 => ktr_room)
  (case k8 => ktr_units)
  intro n' r' s1 hR hB1 F1 N1
  refine Classical.byContradiction fun hng9 => ?_
  obtain ⟨D, vs, tb1, ex, rfl, rfl, hO, hT1, hex, hD, hrD⟩ := hR
  refine Classical.byContradiction fun hng9 => ?_
  obtain ⟨ex2, hs2, hc2, hT2⟩ := tab_cell (fun p hp => N1 p (.tail _ (.tail _ hp))) d1 hT1
  refine hng9 ?_
  clear hng9
  refine hng9 ?_
  clear hng9
  have hDc : D ≠ L' + 1 := fun e => hrD _ (.head _) e.symm
  have N3 : News g' L' s1.heap ((L' + 1, oc) :: (D, listOf vs.toArray vs.length) :: (172, tabObj tb1) :: (ex2 ++ rest)) := cb_drop N1 (List.forall_mem_cons.mpr ⟨.tail _ (.tail _ (List.mem_append.mpr (.inr (.head _)))), List.forall_mem_cons.mpr ⟨.head _, List.forall_mem_cons.mpr ⟨.tail _ (.head _), fun p hp => .tail _ (.tail _ (List.mem_append.mpr ((List.mem_append.mp hp).elim (fun h => .inl (hs2 p h)) fun h => .inr (.tail _ h))))⟩⟩⟩)
  have hall : ∀ p ∈ (D, listOf vs.toArray vs.length) :: (172, tabObj tb1) :: (ex2 ++ rest), p.1 ≠ L' + 1 := List.forall_mem_cons.mpr ⟨hDc, List.forall_mem_cons.mpr ⟨Nat.ne_of_lt (Nat.lt_succ_of_lt l172), ne_app hc2 hrest⟩⟩
  have hvl := hO.len
  have hex2 : ∀ q ∈ ex2, q.1 ≠ 172 ∧ q.1 ≠ D := fun q hq => hex q (hs2 q hq)
  clear N1 N2 N' hex hT1 hs2
  (k_unmd)
  k_steps
  unfold Stuck
  rename_i hS oc2 d2 l5 hL FF FL NL
  obtain ⟨nv, hnv, FL2⟩ : ∃ nv, StrsAre nv namesT ∧ News g' L' hL ((l5, listOf nv.toArray 0) :: (L' + 1, oc2) :: (D, listOf vs.toArray vs.length) :: (172, tabObj tb1) :: (ex2 ++ rest)) := ⟨_, .cons _ _ (.cons _ _ (.cons _ _ .nil)), FL⟩
  clear FL
  have hnl : nv.length = 3 := hnv.len_eq
  refine LCt.CompSrcT.ledger rfl FF FL2 (.head _) (by rw [List.size_toArray, sizeLine_eq]; omega) ?_
  intro g9
  rw [List.size_toArray]
  refine comp_test nv (fun i => takesF fin (namesT.getD i (Str.ofString ""))) (fun i v h => by simpa using h) (.inr ⟨_, .head _, rfl, _, rfl⟩) ?_ ?_ ?_
  · intro i zs v I oI C oC D2 m2 h2 tk2 E2 hv hC hx2 F2 N2 off ne
    refine Classical.byContradiction fun hng9 => ?_
    obtain ⟨y, ty, rfl, hy⟩ := StrsAre.item hnv i v hv
    refine hng9 ?_
    clear hng9
    have hyd : namesT.getD i (Str.ofString "") = y := by simp [List.getD, hy]
    have hyl : y.length ≤ 100 := by
      have hm := List.mem_of_getElem? hy
      simp only [namesT, List.mem_cons, List.not_mem_nil, or_false] at hm
      rcases hm with rfl | rfl | rfl <;> decide +kernel
    rw [hyd]
    have hdoes := takes_does w mean mg mb ((I, oI) :: (C, oC) :: (D2, lst zs) :: (l5, listOf nv.toArray 0) :: (L' + 1, oc2) :: (D, listOf vs.toArray vs.length) :: (172, tabObj tb1) :: (ex2 ++ rest)) D vs vs.length fin y ty hO (.tail _ (.tail _ (.tail _ (.tail _ (.tail _ (.head _)))))) hfl hyl
    (try k_unmd)
    (try k_fold)
    k_steps
    all_goals first | assumption | walk_at "Mdrop"
  · intro i zs v I oI C oC D2 m2 h2 tk2 E2 hv hC hx2 F2 N2 off ne
    (try k_unmd)
    (try k_fold)
    k_steps
    all_goals first | assumption | walk_at "Mdrop"
  · have hF := filt_strs (takesF fin) (fun i => takesF fin (namesT.getD i (Str.ofString ""))) hnv 0 (fun i y hy => by simp [List.getD, hy])
    generalize ((nv.zipIdx.filter _).map (·.1)) = fv at hF ⊢
    unfold FinE
    intro D6 h6 tk6 F6 N6 o6
    dsimp only
    have o7 := off1_mem o6
    (k_unmd)
    k_steps
    refine hret _ _ _ ⟨D6, fv, fv.length, tb1, ex2, rfl, rfl, hF, hT2, fun q hq => ⟨(hex2 q hq).1, o7 q (.tail _ (.tail _ (.tail _ (.tail _ (List.mem_append.mpr (.inl hq))))))⟩, fun e => o7 _ (.tail _ (.tail _ (.tail _ (.head _)))) e.symm, fun q hq => o7 q (.tail _ (.tail _ (.tail _ (.tail _ (List.mem_append.mpr (.inr hq))))))⟩ (by first | assumption | exact And.right (by assumption)) (by assumption) (cb_drop (by assumption) (List.forall_mem_cons.mpr ⟨.head _, fun p hp => .tail _ (.tail _ (.tail _ (.tail _ hp)))⟩))
end

section
open PySem PySem.W PyProof.Rows PySem.Calls PySem.Builtin PySem.Builtin.Str
/-! the names that _law_taken finds are the names that are meant -/
noncomputable def patOk (q : Str × List Str) : Bool := match trF q.1 (q.1.length + 1) 0 [] with
  | some fin => decide (fin.length ≤ 200) && (takenF fin == q.2) && decide (q.1.length ≤ 8)
  | none => false
theorem pats_ok : (meantT.all patOk) = true := by decide +kernel
theorem taken_names {p : Str} {ns : List Str} (h : meantF p = some ns) : ∃ fin, trF p (p.length + 1) 0 [] = some fin ∧ fin.length ≤ 200 ∧ takenF fin = ns := by
  unfold meantF at h
  obtain ⟨q, hq, rfl⟩ := Option.map_eq_some_iff.mp h
  have hm := List.mem_of_find?_eq_some hq
  have he : q.1 = p := by simpa using List.find?_some hq
  have hp := List.all_eq_true.mp pats_ok q hm
  unfold patOk at hp
  rw [he] at hp
  split at hp
  · rename_i fin hf
    simp only [Bool.and_eq_true, decide_eq_true_eq, beq_iff_eq] at hp
    exact ⟨fin, hf, hp.1.1, hp.1.2⟩
  · cases hp
end

section
open PySem PySem.W PyProof.Rows PySem.Calls PySem.Builtin PySem.Builtin.Str
/-! law 01: rows and places step by step, and their sizes -/
noncomputable def doneG {α β : Type} (f : α → Str → β) (ns : List Str) (acc : List α) (i j : Nat) : List β :=
  ((acc.take i).flatMap fun a => ns.map (f a)) ++ (match acc[i]? with | some a => (ns.take j).map (f a) | none => [])
section
variable {α β : Type} {f : α → Str → β} {ns : List Str} {acc : List α}
theorem done_start : doneG f ns acc 0 0 = [] := by
  unfold doneG
  rw [List.take_zero, List.take_zero]
  split <;> rfl
theorem done_next {i j : Nat} {a : α} {n : Str} (ha : acc[i]? = some a) (hn : ns[j]? = some n) : doneG f ns acc i (j + 1) = doneG f ns acc i j ++ [f a n] := by
  unfold doneG
  rw [ha]
  dsimp only
  rw [List.take_add_one, hn, List.map_append, ← List.append_assoc]
  rfl
theorem done_row (i : Nat) : doneG f ns acc i ns.length = doneG f ns acc (i + 1) 0 := by
  unfold doneG
  rw [List.take_length, List.take_zero, List.take_add_one]
  cases acc[i]? with
  | none =>
    show _ ++ [] = _
    rw [List.append_nil]
    split <;> simp
  | some a =>
    dsimp only
    rw [List.flatMap_append]
    split <;> simp
theorem done_all : doneG f ns acc acc.length 0 = acc.flatMap fun a => ns.map (f a) := by
  unfold doneG
  rw [List.take_length, List.take_zero]
  split <;> simp
end
/-- a piece of the straightened path -/
noncomputable def StP (p : Str) : Prop := p = Str.ofString "." ∨ p = Str.ofString ".." ∨ (part p ∧ Dr p)
theorem names_in {p : Str} (h : (([Str.ofString ".", Str.ofString ".."] : List Str).any fun x => x == p) = true) : namesOf p = [p] := by
  unfold namesOf
  rw [if_pos]
  rw [BEq.comm (a := p), BEq.comm (a := p)]
  simpa using h
theorem out_pat {p : Str} (hp : StP p) (h : (([Str.ofString ".", Str.ofString ".."] : List Str).any fun x => x == p) = false) : ∃ ns, meantF p = some ns ∧ namesOf p = ns := by
  rcases hp with rfl | rfl | ⟨h1, h2⟩
  · exact absurd h (by decide +kernel)
  · exact absurd h (by decide +kernel)
  · obtain ⟨ns, hm, hn, _⟩ := pat_names h1 h2
    exact ⟨ns, hm, hn⟩
theorem stp_names {p : Str} (hp : StP p) : (namesOf p).length ≤ 2 ∧ ∀ n ∈ namesOf p, n.length ≤ 2 := by
  rcases hp with rfl | rfl | ⟨h1, h2⟩
  · exact ⟨by decide +kernel, by decide +kernel⟩
  · exact ⟨by decide +kernel, by decide +kernel⟩
  · obtain ⟨ns, _, hn, h3, _, h4⟩ := pat_names h1 h2
    rw [hn]
    exact ⟨h4, fun n hn => (h3 n hn).2⟩
theorem straight_pieces {l : List Str} (hl : ∀ p ∈ l, Dr p) : ∀ p ∈ (straightF l).drop 1, StP p := by
  have ok := pl_ok hl
  rw [straight_law fun p hp => (hl p hp).kd]
  intro p hp
  unfold toL at hp
  have hp' : p ∈ (if (l.foldl ptStep pt0).r.length = 0 ∧ (l.foldl ptStep pt0).comps = [] then [Str.ofString "."] else (l.foldl ptStep pt0).comps) := hp
  split at hp'
  · rw [List.mem_singleton.mp hp']; exact .inl rfl
  · rcases List.mem_append.mp hp' with h | h
    · rw [(List.mem_replicate.mp h).2]; exact .inr (.inl rfl)
    · exact .inr (.inr (ok.pt p h))
theorem straight_head {l : List Str} (hl : ∀ p ∈ l, Dr p) : (straightF l).headD (Str.ofString "") ∈ [Str.ofString "", Str.ofString "/", Str.ofString "//"] ∧ ∃ r rest, straightF l = r :: rest := by
  have ok := pl_ok hl
  rw [straight_law fun p hp => (hl p hp).kd]
  refine ⟨?_, _, _, rfl⟩
  show (l.foldl ptStep pt0).r ∈ _
  rcases ok.gd.2 with h | ⟨_, h | h⟩ <;> rw [h] <;> simp
theorem take_more {l : List Str} {i : Nat} {p : Str} (h : l[i]? = some p) : l.take (i + 1) = l.take i ++ [p] := by
  rw [List.take_add_one, h]; rfl
theorem choices_more {l : List Str} {i : Nat} {p : Str} (h : l[i]? = some p) : choices (l.take (i + 1)) = rowStep (namesOf p) (choices (l.take i)) := by
  rw [take_more h, choices_snoc]
theorem rows_sz {l : List Str} (hl : ∀ p ∈ l, StP p) : (choices l).length ≤ 2 ^ l.length ∧ ∀ row ∈ choices l, row.length = l.length ∧ ∀ n ∈ row, n.length ≤ 2 := by
  induction l using snoc_ind with
  | h0 => exact ⟨Nat.le_refl _, fun row hrow => by rw [List.mem_singleton.mp hrow]; exact ⟨rfl, fun _ h => (nomatch h)⟩⟩
  | h1 l p ih =>
    obtain ⟨i1, i2⟩ := ih fun q hq => hl q (List.mem_append.mpr (.inl hq))
    obtain ⟨n1, n2⟩ := stp_names (hl p (by simp))
    rw [choices_snoc]
    refine ⟨?_, fun row hrow => ?_⟩
    · rw [row_len, List.length_append]
      show _ ≤ 2 ^ (l.length + 1)
      rw [Nat.pow_succ]
      exact Nat.mul_le_mul i1 n1
    · obtain ⟨row', h1, n, h2, rfl⟩ := mem_row.mp hrow
      refine ⟨by simp [(i2 row' h1).1], fun m hm => ?_⟩
      rcases List.mem_append.mp hm with hm | hm
      · exact (i2 row' h1).2 m hm
      · rw [List.mem_singleton.mp hm]; exact n2 n h2
theorem pow_le6 {n : Nat} (h : n ≤ 6) : 2 ^ n ≤ 64 := Nat.pow_le_pow_right (by decide) h
theorem straight_len {l : List Str} (hl : ∀ p ∈ l, Dr p) : (straightF l).length ≤ l.length + 2 := by
  have h1 := comps_len (l := l) (c := pt0) fun p hp => (hl p hp).kd
  rw [straight_law fun p hp => (hl p hp).kd]
  unfold toL
  rw [List.length_cons]
  have h4 : pt0.comps.length = 0 := rfl
  split
  · simp
  · lia
theorem k_len : ∀ {l : List Str} {c : Pt}, (∀ p ∈ l, Kd p) → (l.foldl ptStep c).k.length ≤ c.k.length + l.length
  | [], _, _ => Nat.le_refl _
  | p :: l, c, hl => by
    have h1 := k_len (l := l) (c := ptStep c p) fun q hq => hl q (.tail _ hq)
    have h2 : (ptStep c p).k.length ≤ c.k.length + 1 := by
      cases hl p (.head _) with
      | e => rw [pt_e]; exact Nat.le_succ _
      | d => rw [pt_d]; exact Nat.le_succ _
      | s1 => rw [pt_s1]; exact Nat.zero_le _
      | s2 => rw [pt_s2]; exact Nat.zero_le _
      | s3 => rw [pt_s3]; exact Nat.zero_le _
      | nm h => rw [pt_nm _ h]; simp
      | up =>
        rw [pt_up]
        unfold Pt.pop
        split
        · split <;> exact Nat.le_succ _
        · simp; lia
    rw [List.foldl_cons, List.length_cons]; lia
theorem due_len {l : List Str} (hl : ∀ p ∈ l, Dr p) : (dueU (straightF l)).length ≤ 2 ^ l.length := by
  have ok := pl_ok hl
  have hkd : ∀ p ∈ l, Kd p := fun p hp => (hl p hp).kd
  rw [straight_law hkd, due_law ok.pt, List.length_map]
  have h := k_len (c := pt0) hkd
  have h0 : pt0.k.length = 0 := rfl
  exact Nat.le_trans (choice_ok ok.pt).2.2 (Nat.pow_le_pow_right (by decide) (by lia))
/-! the paths that are taken -/
theorem taken_more {l acc : List Str} {i : Nat} {p : Str} (h : l[i]? = some p) : (l.take (i + 1)).foldl takeStep acc = takeStep ((l.take i).foldl takeStep acc) p := by
  rw [take_more h, List.foldl_append]; rfl
theorem take_len (p : Str) : ∀ acc : List Str, (takeStep acc p).length = acc.length * (namesOf p).length
  | [] => by simp [takeStep]
  | a :: acc => by
    show (((namesOf p).map fun n => pjStep a n) ++ takeStep acc p).length = _
    rw [List.length_append, take_len p acc, List.length_map, List.length_cons, Nat.add_mul, Nat.one_mul, Nat.add_comm]
theorem taken_sz {l : List Str} {r : Str} (hr : r.length ≤ 2) (hl : ∀ p ∈ l, StP p) : (l.foldl takeStep [r]).length ≤ 2 ^ l.length ∧ ∀ z ∈ l.foldl takeStep [r], z.length ≤ 2 + 3 * l.length := by
  induction l using snoc_ind with
  | h0 => exact ⟨Nat.le_refl _, fun z hz => by rw [List.mem_singleton.mp hz]; exact hr⟩
  | h1 l p ih =>
    obtain ⟨i1, i2⟩ := ih fun q hq => hl q (List.mem_append.mpr (.inl hq))
    obtain ⟨n1, n2⟩ := stp_names (hl p (by simp))
    rw [List.foldl_append]
    show (takeStep (l.foldl takeStep [r]) p).length ≤ _ ∧ ∀ z ∈ takeStep (l.foldl takeStep [r]) p, _
    refine ⟨?_, fun z hz => ?_⟩
    · rw [take_len, List.length_append]
      show _ ≤ 2 ^ (l.length + 1)
      rw [Nat.pow_succ]
      exact Nat.mul_le_mul i1 n1
    · unfold takeStep at hz
      obtain ⟨pl, h1, h2⟩ := List.mem_flatMap.mp hz
      obtain ⟨n, h3, rfl⟩ := List.mem_map.mp h2
      have a := i2 pl h1
      have b := n2 n h3
      have c := pjStep_len pl n
      rw [List.length_append]
      show _ ≤ 2 + 3 * (l.length + 1)
      lia
theorem pj_nil (p : Str) : pjStep (Str.ofString "") p = p := by
  unfold pjStep
  split
  · rfl
  · rw [if_pos (by rfl)]
theorem whole_len {l : List Str} (hl : ∀ p ∈ l, Dr p) : (render (l.foldl ptStep pt0)).length ≤ 2 + l.length * 9 := by
  have ok := pl_ok hl
  have h1 := render_len ok.gd (B := 8) (fun p hp => by
    cases (ok.pt p hp).2 with
    | sp _ _ _ h => exact h
    | pat _ _ _ h => exact h) (by decide)
  have h2 := comps_len (l := l) (c := pt0) fun p hp => (hl p hp).kd
  have h4 : pt0.comps.length = 0 := rfl
  have h5 := Nat.mul_le_mul_right 9 (Nat.le_trans h2 (by rw [h4, Nat.zero_add]; exact Nat.le_refl _))
  lia
theorem stp_len {p : Str} (h : StP p) : p.length ≤ 8 := by
  rcases h with rfl | rfl | ⟨_, h⟩
  · decide +kernel
  · decide +kernel
  · cases h with
    | sp _ _ _ h => exact h
    | pat _ _ _ h => exact h
theorem bad_filter (l : List Str) : bad l = !(l.filter fun p => meantF p == some []).isEmpty := by
  unfold bad
  induction l with
  | nil => rfl
  | cons p l ih =>
    rw [List.any_cons, List.filter_cons]
    by_cases h : (meantF p == some []) = true
    · rw [if_pos h, h]; rfl
    · rw [if_neg h, ← ih, Bool.not_eq_true _ |>.mp h]; rfl
theorem any_contains (x : Str) : ∀ l : List Str, (l.any fun y => y == x) = l.contains x
  | [] => rfl
  | y :: l => by
    rw [List.any_cons, any_contains x l, List.contains_cons, BEq.comm]
theorem add_old {l : List Str} {x : Str} (h : (l.any fun y => y == x) = true) : addNew l x = l := by
  rw [any_contains] at h
  unfold addNew
  rw [if_pos h]
theorem add_new {l : List Str} {x : Str} (h : (l.any fun y => y == x) = false) : addNew l x = l ++ [x] := by
  rw [any_contains] at h
  unfold addNew
  rw [h]; rfl
end

section
open PySem PySem.W PyProof.Rows PySem.Calls PyProof.Rows.LCg
/-! a list comprehension with two clauses: its turns -/
noncomputable abbrev LC2 (elt t0 i0 t1 i1 : Expr) (scope : Scope) (pos : Pos) : Expr := .ListComp elt [⟨t0, i0, [], 0⟩, ⟨t1, i1, [], 0⟩] scope pos
theorem turn2_in (elt t0 i0 t1 i1 : Expr) (scope : Scope) (pos : Pos) (it acc : Value) (env : Env) :
    compTurn (LC2 elt t0 i0 t1 i1 scope pos) 1 it acc env = (standAt i1.pos >>= fun _ => pyNext it >>= fun r => match r with
      | none => pure (.done .next)
      | some v => letOwnedTupleGo t1 it v >>= fun _ => assign t1 env v >>= fun _ =>
        (eval elt env >>= fun x => call (.builtin "list.append") [acc, x] >>= fun _ => pure ()) >>= fun _ =>
          again (.compLoop (LC2 elt t0 i0 t1 i1 scope pos) 1 it acc env)) := by rfl
theorem turn2_out (elt t0 i0 t1 i1 : Expr) (scope : Scope) (pos : Pos) (it acc : Value) (env : Env) :
    compTurn (LC2 elt t0 i0 t1 i1 scope pos) 0 it acc env = (standAt i0.pos >>= fun _ => pyNext it >>= fun r => match r with
      | none => pure (.done .next)
      | some v => letOwnedTupleGo t0 it v >>= fun _ => assign t0 env v >>= fun _ =>
        eval i1 env >>= fun x => standAt i1.pos >>= fun _ => foldedSetIterable i1 env x >>= fun x => holding [x] (pyIter x) >>= fun it2 => runOwn (.compStart (LC2 elt t0 i0 t1 i1 scope pos) 1 it2 acc env) env >>= fun _ =>
          again (.compLoop (LC2 elt t0 i0 t1 i1 scope pos) 0 it acc env)) := by
  unfold compTurn
  rfl
section
variable {prog : Program} {w : World} {A : Around} {E : Value → Shared → Prop} {R : Result → Shared → Prop} {s : Shared} {elt t0 i0 t1 i1 : Expr} {scope : Scope} {pos : Pos} {it acc : Value} {env : Env}
theorem loop2_in (I : Nat → Shared → Prop)
    (turn : ∀ n s, I n s → wpAny (model prog w) A (pyNext it) (fun r s₁ => match r with
      | none => R (.ok .next) s₁
      | some v => wpAny (model prog w) A (assign t1 env v) (fun _ s₂ => wpAny (model prog w) A (eval elt env) (fun x s₃ =>
          wpAny (model prog w) A (call (.builtin "list.append") [acc, x]) (fun _ s₄ => ∃ m, m < n ∧ I m s₄) (notedBy (model prog w) A env fun e s' => R (.error e) s') s₃)
          (notedBy (model prog w) A env fun e s' => R (.error e) s') s₂) (notedBy (model prog w) A env fun e s' => R (.error e) s') s₁) (notedBy (model prog w) A env fun e s' => R (.error e) s') s)
    (n : Nat) (h : I n s) (ht : ∀ v, letOwnedTupleGo t1 it v = pure () := by intro _; rfl) :
    codeAny (model prog w) A (.compLoop (LC2 elt t0 i0 t1 i1 scope pos) 1 it acc env) R s := by
  refine codeAny_loop rfl I (fun n s hI => ?_) n h
  show wpAny _ _ ((compTurn (LC2 elt t0 i0 t1 i1 scope pos) 1 it acc env).onRaise (fun x => do noteFrame x env; theTreesLotGoes x)) _ _ s
  refine wpAny_noted ?_
  rw [turn2_in]
  refine wpAny_bind (wpAny_standAt (wpAny_bind (wpAny_mono (turn n s hI) (fun r s₁ h₁ => ?_) fun _ _ h' => h')))
  cases r with
  | none => exact wpAny_pure h₁
  | some v =>
    refine wpAny_bind (wpAny_of_eq (ht v) ?_)
    exact wpAny_bind (wpAny_mono h₁ (fun _ s₂ h₂ => wpAny_bind (wpAny_bind (wpAny_mono h₂ (fun x s₃ h₃ => wpAny_bind (wpAny_mono h₃
      (fun _ s₄ h₄ => wpAny_pure (wpAny_pure ⟨rfl, h₄⟩)) fun _ _ h' => h')) fun _ _ h' => h'))) fun _ _ h' => h')
theorem loop2_out (I : Nat → Shared → Prop)
    (turn : ∀ n s, I n s → wpAny (model prog w) A (pyNext it) (fun r s₁ => match r with
      | none => R (.ok .next) s₁
      | some v => wpAny (model prog w) A (assign t0 env v) (fun _ s₂ => wpAny (model prog w) A (eval i1 env) (fun x s₃ =>
          wpAny (model prog w) A (holding [x] (pyIter x)) (fun it2 s₄ => wpAny (model prog w) A (runOwn (.compStart (LC2 elt t0 i0 t1 i1 scope pos) 1 it2 acc env) env) (fun _ s₅ => ∃ m, m < n ∧ I m s₅) (notedBy (model prog w) A env fun e s' => R (.error e) s') s₄) (notedBy (model prog w) A env fun e s' => R (.error e) s') s₃)
          (notedBy (model prog w) A env fun e s' => R (.error e) s') s₂) (notedBy (model prog w) A env fun e s' => R (.error e) s') s₁) (notedBy (model prog w) A env fun e s' => R (.error e) s') s)
    (n : Nat) (h : I n s) (hs : ∀ x, foldedSetIterable i1 env x = pure x := by intro _; rfl) (ht : ∀ v, letOwnedTupleGo t0 it v = pure () := by intro _; rfl) :
    codeAny (model prog w) A (.compLoop (LC2 elt t0 i0 t1 i1 scope pos) 0 it acc env) R s := by
  refine codeAny_loop rfl I (fun n s hI => ?_) n h
  show wpAny _ _ ((compTurn (LC2 elt t0 i0 t1 i1 scope pos) 0 it acc env).onRaise (fun x => do noteFrame x env; theTreesLotGoes x)) _ _ s
  refine wpAny_noted ?_
  rw [turn2_out]
  refine wpAny_bind (wpAny_standAt (wpAny_bind (wpAny_mono (turn n s hI) (fun r s₁ h₁ => ?_) fun _ _ h' => h')))
  cases r with
  | none => exact wpAny_pure h₁
  | some v =>
    refine wpAny_bind (wpAny_of_eq (ht v) ?_)
    exact wpAny_bind (wpAny_mono h₁ (fun _ s₂ h₂ => wpAny_bind (wpAny_mono h₂ (fun x s₃ h₃ => wpAny_bind (wpAny_standAt (wpAny_bind (wpAny_of_eq (hs x) (wpAny_bind (wpAny_mono h₃
      (fun it2 s₄ h₄ => wpAny_bind (wpAny_mono h₄ (fun _ s₅ h₅ => wpAny_pure ⟨rfl, h₅⟩) fun _ _ h' => h')) fun _ _ h' => h')))))) fun _ _ h' => h')) fun _ _ h' => h')
theorem start2_in (h0 : codeAny (model prog w) A (.compLoop (LC2 elt t0 i0 t1 i1 scope pos) 1 it acc env) R s)
    (h : wpAny (model prog w) A (pyIter it) (fun it' s' => codeAny (model prog w) A (.compLoop (LC2 elt t0 i0 t1 i1 scope pos) 1 it' acc env) R s') (notedBy (model prog w) A env fun x s' => R (.error x) s') s) :
    codeAny (model prog w) A (.compStart (LC2 elt t0 i0 t1 i1 scope pos) 1 it acc env) R s := by
  refine codeAny_of_tree ?_
  show wpAny _ _ ((compStart (LC2 elt t0 i0 t1 i1 scope pos) 1 it acc env).onRaise (fun x => do noteFrame x env; standAt theWindowsPlace)) _ _ s
  refine wpAny_notedAt ?_
  unfold compStart
  show wpAny _ _ (ask >>= _) _ _ s
  refine wpAny_bind (wpAny_askSetting (wpAny_ite ?_))
  split
  · first
      | exact wpAny_bind (wpAny_pure (wpAny_pure (And.intro rfl h0)))
      | exact wpAny_pure (And.intro rfl h0)
  · first
      | exact wpAny_bind (wpAny_rule (wpAny_bind (wpAny_standAt (wpAny_bind (wpAny_mono h (fun it' s' h' => wpAny_pure (And.intro rfl h')) fun _ _ x => x)))))
      | (refine wpAny_bind (wpAny_rule ?_); show wpAny _ _ (standAt i1.pos >>= _) _ _ s; exact wpAny_bind (wpAny_standAt (wpAny_bind (wpAny_mono h (fun it' s' h' => wpAny_pure (And.intro rfl h')) fun _ _ x => x))))
end
end

section
open PySem PySem.W PyProof.Rows PySem.Calls PyProof.Rows.LCg
/-! a list comprehension with two clauses over lists of the ledger, the inner list the same at every turn -/
section
variable {prog : Program} {w : World} {A : Around} {E : Value → Shared → Prop} {s : Shared} {h₀ : Heap} {L : Addr} {m : Str → Option Value} {env : Env}
theorem mem1 {D : Addr} : ∀ {l : List (Addr × Obj)}, Off1 D l → ∀ p ∈ l, p.1 ≠ D
  | [], _, _, h => nomatch h
  | _ :: _, x, p, h => by
    rcases List.mem_cons.mp h with rfl | h
    · exact x.1
    · exact mem1 x.2 p h
/-- the element's turn -/
noncomputable def GTurn2 (prog : Program) (w : World) (A : Around) (h₀ : Heap) (L : Addr) (m : Str → Option Value) (env : Env) (elt : Expr) (x y : Str) (scope : Scope) (cl : List (Str × Addr)) (o : OsState) (J : Nat → Nat → List Value → List (Addr × Obj) → Prop) (vs ws : List Value) : Prop :=
  ∀ (i j : Nat) v u ys nw I2 oI2 I oI C oC D m₂ s₂ (E' : Value → Shared → Prop), vs[i]? = some v → ws[j]? = some u → J i j ys nw → Bare o s₂ → NsObj oC m₂ → m₂ x = some v → m₂ y = some u → Fr h₀ L s₂.heap m → News h₀ L s₂.heap ((I2, oI2) :: (I, oI) :: (C, oC) :: (D, lst ys) :: nw) → Off3 I C D nw → Off1 I2 nw →
      wpAny (model prog w) A (eval elt (compEnvC scope cl C env)) (fun z s₃ => ∃ nw', Bare o s₃ ∧ Fr h₀ L s₃.heap m ∧ News h₀ L s₃.heap ((I2, oI2) :: (I, oI) :: (C, oC) :: (D, lst ys) :: nw') ∧ Off3 I C D nw' ∧ Off1 I2 nw' ∧ J i (j + 1) (ys ++ [z]) nw') E' s₂
/-- the state between the inner turns -/
noncomputable def In2 (h₀ : Heap) (L : Addr) (m : Str → Option Value) (o : OsState) (J : Nat → Nat → List Value → List (Addr × Obj) → Prop) (ws : List Value) (x : Str) (v : Value) (ax bx I I2 C D : Addr) (i k : Nat) (s' : Shared) : Prop :=
  ∃ j ys m' nw, j ≤ ws.length ∧ k = ws.length + 1 - j ∧ s'.heap.IsListIter I2 bx j ∧ s'.heap.IsListIter I ax (i + 1) ∧ m' x = some v ∧ Fr h₀ L s'.heap m ∧ s'.heap.Ns C m' ∧ News h₀ L s'.heap ((D, lst ys) :: nw) ∧ Off3 I C D nw ∧ Off1 I2 nw ∧ J i j ys nw ∧ Bare o s' ∧ ys.length = i * ws.length + j
theorem inner2 {elt t0 i0 i1 : Expr} {x y : Str} {py pos : Pos} {scope : Scope} {cl : List (Str × Addr)} {vs ws : List Value} {nn mm : Nat} {ax bx I I2 C D : Addr} {o : OsState} {J : Nat → Nat → List Value → List (Addr × Obj) → Prop} {i : Nat} {v : Value} {R : Result → Shared → Prop}
    (hh : A.handled = none) (hxy : x ≠ y) (hkind : scope.kind = .function) (hy : scope.names.lookup y = some .local)
    (hv : vs[i]? = some v) (hsrc : ∀ i j ys nw, J i j ys nw → (bx, listOf ws.toArray mm) ∈ nw)
    (hsz : vs.length * ws.length + ws.length ≤ sizeLine)
    (d1 : @Ne Nat I2 I) (d2 : @Ne Nat I2 C) (d3 : @Ne Nat I2 D) (d4 : @Ne Nat I C) (d5 : @Ne Nat I D) (d6 : @Ne Nat C D)
    (b1 : I2 ≠ L) (b2 : I ≠ L) (b3 : C ≠ L) (b4 : D ≠ L) (z1 : h₀.get? I2 = none) (z2 : h₀.get? I = none) (z3 : h₀.get? C = none) (z4 : h₀.get? D = none) (hbI : bx ≠ I2)
    (turn : GTurn2 prog w A h₀ L m env elt x y scope cl o J vs ws)
    (fin : ∀ ys m' nw s', s'.heap.IsListIter I ax (i + 1) → Fr h₀ L s'.heap m → s'.heap.Ns C m' → News h₀ L s'.heap ((D, lst ys) :: nw) → Off3 I C D nw → J i ws.length ys nw → Bare o s' → ys.length = i * ws.length + ws.length → R (.ok .next) s')
    (k : Nat) (h : In2 h₀ L m o J ws x v ax bx I I2 C D i k s) :
    codeAny (model prog w) A (.compLoop (LC2 elt t0 i0 (.Name y py) i1 scope pos) 1 (.ref I2) (.ref D) (compEnvC scope cl C env)) R s := by
  have W := Walks.list (prog := prog) (w := w) hh I2 bx hbI ws.toArray
  have hvl : ws.toArray.size = ws.length := by simp
  rw [hvl] at W
  refine loop2_in (In2 h₀ L m o J ws x v ax bx I I2 C D i) ?_ k h
  intro k s' hI9
  refine Classical.byContradiction fun hng9 => ?_
  obtain ⟨j, ys, m', nw, hj, rfl, hit, hitI, hmx, F', hn', N', off', off2, hJ', hB', hyl⟩ := hI9
  refine hng9 ?_
  clear hng9
  have ls' : s'.heap.IsList bx ws.toArray := lst_at (fun p hp => N' p (.tail _ hp)) (hsrc _ _ _ _ hJ')
  by_cases hlt : j < ws.length
  · refine W.item j _ _ _ hlt ⟨hit, ls'⟩ fun u h₂ tk₂ hPv hst₂ hk₂ => ?_
    refine wpAny_assign_Name (wpAny_storeName_local (lookup_relabel_local hy) (hn'.at' fun o e => hk₂ _ o (by simpa using Ne.symm d2) e) (fun h₃ hn₃ hs₃ => ?_) (by simp [compEnvC, relabel, hkind]))
    have it3 : h₃.IsListIter I2 bx (j + 1) := hst₂.1.at fun o e => hs₃.extBut _ _ d2 e
    have itI3 : h₃.IsListIter I ax (i + 1) := (hitI.at fun o e => hk₂ _ o (by simpa using Ne.symm d1) e).at fun o e => hs₃.extBut _ _ d4 e
    refine Classical.byContradiction fun hng9 => ?_
    obtain ⟨o2, he2, r2⟩ := id it3
    refine hng9 ?_
    clear hng9
    refine Classical.byContradiction fun hng9 => ?_
    obtain ⟨oI, heI, rI⟩ := id itI3
    refine hng9 ?_
    clear hng9
    refine Classical.byContradiction fun hng9 => ?_
    obtain ⟨oC, heC, hoC⟩ := ns_obj hn₃
    refine hng9 ?_
    clear hng9
    have F₃ : Fr h₀ L h₃ m := (fr_but F' hk₂ (Ne.symm b1) z1).change hs₃ b3 z3
    have off3 := off'.mem
    have off4 := mem1 off2
    have N₂ : News h₀ L h₂ ((D, lst ys) :: nw) := news_but N' hk₂ fun p hp => by
      rcases List.mem_cons.mp hp with rfl | hp
      · exact Ne.symm d3
      · exact off4 p hp
    have N₃ : News h₀ L h₃ ((I2, o2) :: (I, oI) :: (C, oC) :: (D, lst ys) :: nw) := fun p hp => by
      rcases List.mem_cons.mp hp with rfl | hp
      · exact ⟨he2, b1, z1⟩
      rcases List.mem_cons.mp hp with rfl | hp
      · exact ⟨heI, b2, z2⟩
      rcases List.mem_cons.mp hp with rfl | hp
      · exact ⟨heC, b3, z3⟩
      have z := N₂ p hp
      refine ⟨hs₃.extBut _ _ ?_ z.1, z.2⟩
      rcases List.mem_cons.mp hp with rfl | hp
      · exact Ne.symm d6
      · exact (off3 p hp).2.1
    refine wpAny_mono (turn i j v u ys nw I2 o2 I oI C oC D _ { s' with heap := h₃, toks := _ } _ hv (by simpa using hPv) hJ' hB' hoC (by simp [hxy, hmx]) (by simp) F₃ N₃ off' off2) (fun z s₄ h₄ => ?_) fun _ _ e => e
    refine Classical.byContradiction fun hng9 => ?_
    obtain ⟨nw₄, hB₄, F₄, N₄, off₄, off₅, hJ₄⟩ := h₄
    refine hng9 ?_
    clear hng9
    have e2 := (N₄ (I2, o2) (.head _)).1
    have eI := (N₄ (I, oI) (.tail _ (.head _))).1
    have eC := (N₄ (C, oC) (.tail _ (.tail _ (.head _)))).1
    have eD := (N₄ (D, lst ys) (.tail _ (.tail _ (.tail _ (.head _))))).1
    have N₄' : News h₀ L s₄.heap nw₄ := fun p hp => N₄ p (.tail _ (.tail _ (.tail _ (.tail _ hp))))
    have hil : i < vs.length := (List.getElem?_eq_some_iff.mp hv).1
    have hmul : i * ws.length ≤ vs.length * ws.length := Nat.mul_le_mul_right _ (Nat.le_of_lt hil)
    refine append_at (hsz := by rw [List.size_toArray, hyl]; exact Nat.le_trans (Nat.add_le_add hmul hj) hsz) eD fun h₅ hs₅ hD₅ => ?_
    have off6 := off₄.mem
    refine ⟨ws.length + 1 - (j + 1), by lia, j + 1, ys ++ [z], _, nw₄, hlt, rfl, ⟨o2, hs₅.extBut _ _ d3 e2, r2⟩, ⟨oI, hs₅.extBut _ _ d5 eI, rI⟩, ?_, F₄.change hs₅ b4 z4, (hoC.ns eC).sameBut hs₅ d6, fun p hp => ?_, off₄, off₅, hJ₄, hB₄, by rw [List.length_append, List.length_singleton, hyl]; rfl⟩
    · simp [hxy, hmx]
    · rcases List.mem_cons.mp hp with rfl | hp
      · exact ⟨hD₅.trans (congrArg some (lst_snoc ys z)), b4, z4⟩
      · exact ⟨hs₅.extBut _ _ (off6 p hp).2.2 (N₄' p hp).1, (N₄' p hp).2⟩
  · obtain rfl : j = ws.length := Nat.le_antisymm hj (Nat.not_lt.mp hlt)
    refine W.done _ _ _ ⟨hit, ls'⟩ fun h₂ tk₂ hk₂ => ?_
    have off4 := mem1 off2
    refine fin ys m' nw { s' with heap := h₂, toks := tk₂ } (hitI.at fun o e => hk₂ _ o (by simpa using Ne.symm d1) e) (fr_but F' hk₂ (Ne.symm b1) z1) (hn'.at' fun o e => hk₂ _ o (by simpa using Ne.symm d2) e) (news_but N' hk₂ fun p hp => ?_) off' hJ' hB' hyl
    rcases List.mem_cons.mp hp with rfl | hp
    · exact Ne.symm d3
    · exact off4 p hp
end
end

section
open PySem PySem.W PyProof.Rows PySem.Calls PyProof.Rows.LCg
section
variable {prog : Program} {w : World} {A : Around} {E : Value → Shared → Prop} {s : Shared} {h₀ : Heap} {L : Addr} {m : Str → Option Value} {env : Env}
theorem off1_of {D : Addr} : ∀ {l : List (Addr × Obj)}, (∀ p ∈ l, p.1 ≠ D) → Off1 D l
  | [], _ => True.intro
  | p :: r, h => ⟨h p (.head _), off1_of fun q hq => h q (.tail _ hq)⟩
/-- the inner list's name -/
noncomputable def GList2 (prog : Program) (w : World) (A : Around) (h₀ : Heap) (L : Addr) (m : Str → Option Value) (env : Env) (i1 : Expr) (scope : Scope) (cl : List (Str × Addr)) (o : OsState) (J : Nat → Nat → List Value → List (Addr × Obj) → Prop) (bx : Addr) : Prop :=
  ∀ (i : Nat) ys nw I oI C oC D m₂ s₂ (E' : Value → Shared → Prop), J i 0 ys nw → Bare o s₂ → NsObj oC m₂ → Fr h₀ L s₂.heap m → News h₀ L s₂.heap ((I, oI) :: (C, oC) :: (D, lst ys) :: nw) → Off3 I C D nw →
      wpAny (model prog w) A (eval i1 (compEnvC scope cl C env)) (fun z s₃ => z = .ref bx ∧ ∃ tk, s₃ = { s₂ with toks := tk }) E' s₂
/-- the state between the outer turns -/
noncomputable def Out2 (h₀ : Heap) (L : Addr) (m : Str → Option Value) (o : OsState) (J : Nat → Nat → List Value → List (Addr × Obj) → Prop) (vs ws : List Value) (ax I C D : Addr) (k : Nat) (s' : Shared) : Prop :=
  ∃ i ys m' nw, i ≤ vs.length ∧ k = vs.length + 1 - i ∧ s'.heap.IsListIter I ax i ∧ Fr h₀ L s'.heap m ∧ s'.heap.Ns C m' ∧ News h₀ L s'.heap ((D, lst ys) :: nw) ∧ Off3 I C D nw ∧ J i 0 ys nw ∧ Bare o s' ∧ ys.length = i * ws.length
theorem outer2 {elt i0 i1 : Expr} {x y : Str} {px py pos : Pos} {scope : Scope} {cl : List (Str × Addr)} {vs ws : List Value} {nn mm : Nat} {ax bx I C D : Addr} {o : OsState} {J : Nat → Nat → List Value → List (Addr × Obj) → Prop} {R : Result → Shared → Prop}
    (hh : A.handled = none) (hxy : x ≠ y) (hkind : scope.kind = .function) (hx : scope.names.lookup x = some .local) (hy : scope.names.lookup y = some .local)
    (hsrc : ∀ i j ys nw, J i j ys nw → (ax, listOf vs.toArray nn) ∈ nw ∧ (bx, listOf ws.toArray mm) ∈ nw)
    (hsz : vs.length * ws.length + ws.length ≤ sizeLine) (hstep : ∀ i ys nw, J i ws.length ys nw → J (i + 1) 0 ys nw)
    (d4 : @Ne Nat I C) (d5 : @Ne Nat I D) (d6 : @Ne Nat C D)
    (b2 : I ≠ L) (b3 : C ≠ L) (b4 : D ≠ L) (z2 : h₀.get? I = none) (z3 : h₀.get? C = none) (z4 : h₀.get? D = none) (haI : ax ≠ I)
    (turn : GTurn2 prog w A h₀ L m env elt x y scope cl o J vs ws) (lst1 : GList2 prog w A h₀ L m env i1 scope cl o J bx)
    (fin : ∀ ys m' nw s', Fr h₀ L s'.heap m → s'.heap.Ns C m' → News h₀ L s'.heap ((D, lst ys) :: nw) → Off3 I C D nw → J vs.length 0 ys nw → Bare o s' → R (.ok .next) s')
    (hs1 : ∀ e x, foldedSetIterable i1 e x = pure x) (k : Nat) (h : Out2 h₀ L m o J vs ws ax I C D k s) :
    codeAny (model prog w) A (.compLoop (LC2 elt (.Name x px) i0 (.Name y py) i1 scope pos) 0 (.ref I) (.ref D) (compEnvC scope cl C env)) R s := by
  have W := Walks.list (prog := prog) (w := w) hh I ax haI vs.toArray
  have hvl : vs.toArray.size = vs.length := by simp
  rw [hvl] at W
  refine loop2_out (Out2 h₀ L m o J vs ws ax I C D) ?_ k h (hs := fun x => hs1 _ x)
  intro k s' hI9
  refine Classical.byContradiction fun hng9 => ?_
  obtain ⟨i, ys, m', nw, hi, rfl, hit, F', hn', N', off', hJ', hB', hyl⟩ := hI9
  refine hng9 ?_
  clear hng9
  have ls' : s'.heap.IsList ax vs.toArray := lst_at (fun p hp => N' p (.tail _ hp)) (hsrc _ _ _ _ hJ').1
  by_cases hlt : i < vs.length
  · refine W.item i _ _ _ hlt ⟨hit, ls'⟩ fun v h₂ tk₂ hPv hst₂ hk₂ => ?_
    refine wpAny_assign_Name (wpAny_storeName_local (lookup_relabel_local hx) (hn'.at' fun o e => hk₂ _ o (by simpa using Ne.symm d4) e) (fun h₃ hn₃ hs₃ => ?_) (by simp [compEnvC, relabel, hkind]))
    have itI : h₃.IsListIter I ax (i + 1) := hst₂.1.at fun o e => hs₃.extBut _ _ d4 e
    refine Classical.byContradiction fun hng9 => ?_
    obtain ⟨oI, heI, rI⟩ := id itI
    refine hng9 ?_
    clear hng9
    refine Classical.byContradiction fun hng9 => ?_
    obtain ⟨oC, heC, hoC⟩ := ns_obj hn₃
    refine hng9 ?_
    clear hng9
    have F₃ : Fr h₀ L h₃ m := (fr_but F' hk₂ (Ne.symm b2) z2).change hs₃ b3 z3
    have off3 := off'.mem
    have N₂ : News h₀ L h₂ ((D, lst ys) :: nw) := news_but N' hk₂ fun p hp => by
      rcases List.mem_cons.mp hp with rfl | hp
      · exact Ne.symm d5
      · exact (off3 p hp).1
    have N₃ : News h₀ L h₃ ((I, oI) :: (C, oC) :: (D, lst ys) :: nw) := fun p hp => by
      rcases List.mem_cons.mp hp with rfl | hp
      · exact ⟨heI, b2, z2⟩
      rcases List.mem_cons.mp hp with rfl | hp
      · exact ⟨heC, b3, z3⟩
      have z := N₂ p hp
      refine ⟨hs₃.extBut _ _ ?_ z.1, z.2⟩
      rcases List.mem_cons.mp hp with rfl | hp
      · exact Ne.symm d6
      · exact (off3 p hp).2.1
    refine wpAny_mono (lst1 i ys nw I oI C oC D _ { s' with heap := h₃, toks := _ } _ hJ' hB' hoC F₃ N₃ off') (fun z s₄ h₄ => ?_) fun _ _ e => e
    refine Classical.byContradiction fun hng9 => ?_
    obtain ⟨rfl, tk₄, rfl⟩ := h₄
    refine hng9 ?_
    clear hng9
    have hbm := (hsrc _ _ _ _ hJ').2
    have N₃' : News h₀ L h₃ nw := fun p hp => N₃ p (.tail _ (.tail _ (.tail _ hp)))
    have lb : h₃.IsList bx ws.toArray := lst_at (s := { s' with heap := h₃, toks := tk₄ }) N₃' hbm
    refine wpAny_holding (wpAny_pyIter_list lb ?_)
    dsimp only
    have up1 : ∀ b o, h₃.get? b = some o → (h₃.push { cls := .type "list_iterator", data := .fields #[.ref bx, .int 0 0] }).get? b = some o := fun b o e => Heap.get?_push_of_some _ e
    have it1 : (h₃.push { cls := .type "list_iterator", data := .fields #[.ref bx, .int 0 0] }).IsListIter h₃.objs.size bx 0 := ⟨_, Heap.get?_push_size _ rfl, rfl, rfl⟩
    generalize h₃.push { cls := .type "list_iterator", data := .fields #[.ref bx, .int 0 0] } = H1 at up1 it1 ⊢
    have e1 : @Ne Nat h₃.objs.size I := Ne.symm (Nat.ne_of_lt (Heap.lt_size heI))
    have e2 : @Ne Nat h₃.objs.size C := Ne.symm (Nat.ne_of_lt (Heap.lt_size heC))
    have e3 : @Ne Nat h₃.objs.size D := Ne.symm (Nat.ne_of_lt (Heap.lt_size (N₃ (D, lst ys) (.tail _ (.tail _ (.head _)))).1))
    have e4 : h₃.objs.size ≠ L := Ne.symm (Nat.ne_of_lt F₃.ns.lt)
    have e5 : h₀.get? h₃.objs.size = none := by
      cases e : h₀.get? h₃.objs.size with
      | none => rfl
      | some o => exact absurd (Heap.lt_size (F₃.keep _ o e)) (Nat.lt_irrefl _)
    have e6 : bx ≠ h₃.objs.size := Nat.ne_of_lt (by obtain ⟨_, e, _⟩ := lb; exact Heap.lt_size e)
    have e7 : ∀ p ∈ nw, p.1 ≠ h₃.objs.size := fun p hp => Nat.ne_of_lt (Heap.lt_size (N₃' p hp).1)
    generalize h₃.objs.size = I2 at e1 e2 e3 e4 e5 e6 e7 it1 ⊢
    have go : In2 h₀ L m o J ws x v ax bx I I2 C D i (ws.length + 1) { s' with heap := H1, toks := tk₄ } :=
      ⟨0, ys, _, nw, Nat.zero_le _, rfl, it1, itI.at fun o e => up1 _ o e, by simp, F₃.keeps up1, hn₃.at' fun o e => up1 _ o e, fun p hp => ⟨up1 _ _ (N₃ p (.tail _ (.tail _ hp))).1, (N₃ p (.tail _ (.tail _ hp))).2⟩, off', off1_of e7, hJ', hB', by rw [hyl]; rfl⟩
    refine wpAny_runOwn ?_
    rw [Around.mark_none]
    have W2 := Walks.list (prog := prog) (w := w) hh I2 bx e6 ws.toArray
    have fin2 := fun (ys₂ : List Value) (m₂ : Str → Option Value) (nw₂ : List (Addr × Obj)) (s₅ : Shared) (f1 : s₅.heap.IsListIter I ax (i + 1)) (f2 : Fr h₀ L s₅.heap m) (f3 : s₅.heap.Ns C m₂) (f4 : News h₀ L s₅.heap ((D, lst ys₂) :: nw₂)) (f5 : Off3 I C D nw₂) (f6 : J i ws.length ys₂ nw₂) (f7 : Bare o s₅) (f8 : ys₂.length = i * ws.length + ws.length) =>
      show ∃ k', k' < vs.length + 1 - i ∧ Out2 h₀ L m o J vs ws ax I C D k' s₅ from ⟨vs.length + 1 - (i + 1), by lia, i + 1, ys₂, _, nw₂, hlt, rfl, f1, f2, f3, f4, f5, hstep _ _ _ f6, f7, by rw [f8, Nat.add_mul, Nat.one_mul]⟩
    refine start2_in ?lp (W2.self 0 _ _ _ ⟨it1, lb.at fun o e => up1 _ o e⟩ ?lp)
    exact inner2 (nn := 0) hh hxy hkind hy (by simpa using hPv) (fun i j ys nw h => (hsrc i j ys nw h).2) hsz e1 e2 e3 d4 d5 d6 e4 b2 b3 b4 e5 z2 z3 z4 e6 turn fin2 _ go
  · obtain rfl : i = vs.length := Nat.le_antisymm hi (Nat.not_lt.mp hlt)
    refine W.done _ _ _ ⟨hit, ls'⟩ fun h₂ tk₂ hk₂ => ?_
    have off3 := off'.mem
    refine fin ys m' nw { s' with heap := h₂, toks := tk₂ } (fr_but F' hk₂ (Ne.symm b2) z2) (hn'.at' fun o e => hk₂ _ o (by simpa using Ne.symm d4) e) (news_but N' hk₂ fun p hp => ?_) off' hJ' hB'
    rcases List.mem_cons.mp hp with rfl | hp
    · exact Ne.symm d5
    · exact (off3 p hp).1
end
end

section
open PySem PySem.W PyProof.Rows PySem.Calls PyProof.Rows.LCg
section
variable {prog : Program} {w : World} {A : Around} {E : Value → Shared → Prop} {s : Shared} {h₀ : Heap} {L : Addr} {m : Str → Option Value} {env : Env}
end
end

section
open PySem PySem.W PyProof.Rows PySem.Calls
/-! a list of lists of texts on the ledger (due's rows) -/
inductive LstsAt (l : List (Addr × Obj)) : List Value → List (List Str) → Prop
  | nil : LstsAt l [] []
  | cons {D : Addr} {n : Nat} {vs ws : List Value} {row : List Str} {r : List (List Str)} (h : (D, listOf vs.toArray n) ∈ l) (hi : StrsAre vs row) (hr : LstsAt l ws r) : LstsAt l (.ref D :: ws) (row :: r)
theorem LstsAt.mono {l l' : List (Addr × Obj)} (h : ∀ p ∈ l, p ∈ l') : ∀ {vs r}, LstsAt l vs r → LstsAt l' vs r
  | _, _, .nil => .nil
  | _, _, .cons a b c => .cons (h _ a) b (c.mono h)
theorem LstsAt.snoc {l : List (Addr × Obj)} {D : Addr} {n : Nat} {vs : List Value} {row : List Str} (h : (D, listOf vs.toArray n) ∈ l) (hi : StrsAre vs row) : ∀ {ws r}, LstsAt l ws r → LstsAt l (ws ++ [.ref D]) (r ++ [row])
  | _, _, .nil => .cons h hi .nil
  | _, _, .cons a b c => .cons a b (c.snoc h hi)
theorem LstsAt.len {l : List (Addr × Obj)} : ∀ {vs r}, LstsAt l vs r → vs.length = r.length
  | _, _, .nil => rfl
  | _, _, .cons _ _ c => by rw [List.length_cons, List.length_cons, c.len]
theorem LstsAt.at {l : List (Addr × Obj)} : ∀ {ws r}, LstsAt l ws r → ∀ (i : Nat) v, ws[i]? = some v → ∃ D n vs row, v = .ref D ∧ r[i]? = some row ∧ (D, listOf vs.toArray n) ∈ l ∧ StrsAre vs row
  | _, _, .nil, i, v, h => by simp at h
  | _, _, .cons a b c, 0, v, h => by
    simp at h
    exact ⟨_, _, _, _, h.symm, rfl, a, b⟩
  | _, _, .cons a b c, i + 1, v, h => by
    rw [List.getElem?_cons_succ] at h
    obtain ⟨D, n, vs, row, h1, h2, h3, h4⟩ := c.at i v h
    exact ⟨D, n, vs, row, h1, by rw [List.getElem?_cons_succ]; exact h2, h3, h4⟩
end

section
open PySem PySem.W PyProof.Rows PySem.Calls PyProof.Rows.LCg
/-! a for over a list of the ledger whose body may turn anything (generators too) -/
section
variable {prog : Program} {w : World} {A : Around} {E : Value → Shared → Prop} {s : Shared} {env : Env} {h₀ : Heap} {x : Str} {body : List Stmt} {Q : Flow → Shared → Prop}
noncomputable def ForE (o : OsState) (h₀ : Heap) (L : Addr) (own : List (Addr × Obj)) (J : (Str → Option Value) → List (Addr × Obj) → Prop) (s₂ : Shared) : Prop :=
  ∃ m' nw nx, Bare o s₂ ∧ Fr h₀ L s₂.heap m' ∧ News h₀ L s₂.heap nw ∧ (∀ p ∈ nx, p ∈ nw) ∧ (∀ p ∈ own, p ∈ nw) ∧ OwnOff own (nx.map (·.1)) ∧ J m' nx
noncomputable def ForP (o : OsState) (h₀ : Heap) (L : Addr) (own : List (Addr × Obj)) (J : (Str → Option Value) → List (Addr × Obj) → Prop) (Q : Flow → Shared → Prop) (f : Flow) (s₂ : Shared) : Prop :=
  match f with
  | .ret v => Q (.ret v) s₂
  | .brk => Q .next s₂
  | _ => ForE o h₀ L own J s₂
noncomputable def ForR (prog : Program) (w : World) (A : Around) (h₀ : Heap) (env : Env) (x : Str) (body : List Stmt) (Q : Flow → Shared → Prop) (E : Value → Shared → Prop) (xv : Value) (s₁ : Shared) : Prop :=
  ∃ (o : OsState) (l : Addr) (vs : List Value) (nn : Nat) (J : Nat → (Str → Option Value) → List (Addr × Obj) → Prop) (m : Str → Option Value) (news : List (Addr × Obj)),
    xv = .ref l ∧ A.handled = none ∧ Fr h₀ env.locals s₁.heap m ∧ News h₀ env.locals s₁.heap news ∧ Bare o s₁ ∧ (∀ i m nx, J i m nx → (l, listOf vs.toArray nn) ∈ nx) ∧ J 0 m news ∧
    (∀ i v m₁ nx s' own, vs[i]? = some v → J i m₁ nx → OwnOff own (nx.map (·.1)) → (∀ p ∈ own, NoTxt p.2) → Bare o s' → Fr h₀ env.locals s'.heap (fun y => if y = x then some v else m₁ y) → News h₀ env.locals s'.heap (nx ++ own) →
      ∀ R : Flow → Shared → Prop, (∀ f s₂, ForP o h₀ env.locals own (J (i + 1)) Q f s₂ → R f s₂) → wpAny (model prog w) A (execs body env) R E s') ∧
    (∀ m₁ nx s', J vs.length m₁ nx → Bare o s' → Fr h₀ env.locals s'.heap m₁ → News h₀ env.locals s'.heap nx → Q .next s')
theorem for_G {iter : Expr} {px pos : Pos} (hx : env.kindOf x = some .local) (hp : (env.scope.kind == .class || (env.scope.kind == .module && env.locals != env.globals)) = false)
    (h : wpAny (model prog w) A (eval iter env) (ForR prog w A h₀ env x body Q E) E s)
    (hs : ∀ x, foldedSetIterable iter env x = pure x := by intro _; rfl) (hE : PassesOwn (model prog w) A env E := by passes_own) :
    wpAny (model prog w) A (exec (.For (.Name x px) iter body [] pos) env) Q E s := by
  refine wpAny_For (wpAny_mono h (fun xv s₁ h₁ => ?_) fun _ _ e => e) hs
  refine Classical.byContradiction fun hng9 => ?_
  obtain ⟨o, l, vs, nn, J, m, news, rfl, hh, F, N, hB, hl, hj, turn, done⟩ := h₁
  refine hng9 ?_
  clear hng9
  have ls : s₁.heap.IsList l vs.toArray := lst_at N (hl _ _ _ hj)
  refine wpAny_pyIter_list ls ?_
  have up1 : ∀ b o, s₁.heap.get? b = some o → (s₁.heap.push { cls := .type "list_iterator", data := .fields #[.ref l, .int 0 0] }).get? b = some o := fun b o e => Heap.get?_push_of_some _ e
  have it1 : (s₁.heap.push { cls := .type "list_iterator", data := .fields #[.ref l, .int 0 0] }).IsListIter s₁.heap.objs.size l 0 := ⟨_, Heap.get?_push_size _ rfl, rfl, rfl⟩
  generalize s₁.heap.push { cls := .type "list_iterator", data := .fields #[.ref l, .int 0 0] } = H1 at up1 it1 ⊢
  have hI0 : h₀.get? s₁.heap.objs.size = none := next_is_new F
  have hLI : s₁.heap.objs.size ≠ env.locals := Ne.symm (Nat.ne_of_lt F.ns.lt)
  have hne : l ≠ s₁.heap.objs.size := Nat.ne_of_lt (by obtain ⟨_, e, _⟩ := ls; exact Heap.lt_size e)
  have off0 : ∀ p ∈ news, p.1 ≠ s₁.heap.objs.size := fun p hp => Nat.ne_of_lt (Heap.lt_size (N p hp).1)
  generalize s₁.heap.objs.size = I at it1 hI0 hLI hne off0 ⊢
  have W := Walks.list (prog := prog) (w := w) hh I l hne vs.toArray
  have hvl : vs.toArray.size = vs.length := by simp
  rw [hvl] at W
  refine codeAny_forLoop (R := fun r s' => match r with | .ok f => Q f s' | .error e => cameBackBy (model prog w) A env E e s')
    (fun k s' => ∃ i m' nx, i ≤ vs.length ∧ k = vs.length + 1 - i ∧ s'.heap.IsListIter I l i ∧ Fr h₀ env.locals s'.heap m' ∧ News h₀ env.locals s'.heap nx ∧ (∀ p ∈ nx, p.1 ≠ I) ∧ J i m' nx ∧ Bare o s') ?_ (vs.length + 1)
    ⟨0, m, news, Nat.zero_le _, rfl, it1, F.keeps up1, fun p hp => ⟨up1 _ _ (N p hp).1, (N p hp).2⟩, off0, hj, hB⟩
  intro k s' hI9
  refine Classical.byContradiction fun hng9 => ?_
  obtain ⟨i, m', nx, hi, rfl, hit, F', N', off, hJ, hB'⟩ := hI9
  refine hng9 ?_
  clear hng9
  have ls' : s'.heap.IsList l vs.toArray := lst_at N' (hl _ _ _ hJ)
  by_cases hlt : i < vs.length
  · refine W.item i _ _ _ hlt ⟨hit, ls'⟩ fun v h₂ tk₂ hPv hst₂ hk₂ => ?_
    have F₂ : Fr h₀ env.locals h₂ m' := fr_but F' hk₂ (Ne.symm hLI) hI0
    have N₂ : News h₀ env.locals h₂ nx := news_but N' hk₂ off
    have it2 := hst₂.1
    refine wpAny_assign_Name (wpAny_storeName_local hx F₂.ns (fun h₃ hn₃ hs₃ => ?_) hp)
    have F₃ := F₂.set hn₃ hs₃
    have N₃ := N₂.set hs₃
    have it3 : h₃.IsListIter I l (i + 1) := it2.at fun o e => hs₃.extBut _ _ hLI e
    refine Classical.byContradiction fun hng9 => ?_
    obtain ⟨oI, heI, rI⟩ := id it3
    refine hng9 ?_
    clear hng9
    have N₄ : News h₀ env.locals h₃ (nx ++ [(I, oI)]) := fun p hp => by
      rcases List.mem_append.mp hp with hp | hp
      · exact N₃ p hp
      · rw [List.mem_singleton.mp hp]; exact ⟨heI, hLI, hI0⟩
    have hown : OwnOff [(I, oI)] (nx.map (·.1)) := fun p hp b hb => by
      rw [List.mem_singleton.mp hp]
      refine Classical.byContradiction fun hng9 => ?_
      obtain ⟨q, hq, rfl⟩ := List.mem_map.mp hb
      refine hng9 ?_
      clear hng9
      exact Ne.symm (off q hq)
    have hnt : ∀ p ∈ [(I, oI)], NoTxt p.2 := fun p hp => by
      rw [List.mem_singleton.mp hp]
      exact fun vs' y' t' e1 e2 => by rw [rI.2] at e1; cases e1; cases e2
    refine wpAny_mono (wpAny_passesOwn hE (turn i v m' nx { s' with heap := h₃, toks := _ } [(I, oI)] (by simpa using hPv) hJ hown hnt hB' F₃ N₄ (ForP o h₀ env.locals [(I, oI)] (J (i + 1)) Q) fun _ _ h => h)) (fun f s₄ h₄ => ?_) fun _ _ e => e
    have fin : ForE o h₀ env.locals [(I, oI)] (J (i + 1)) s₄ → ∃ mm, mm < vs.length + 1 - i ∧ ∃ i m' nx, i ≤ vs.length ∧ mm = vs.length + 1 - i ∧ s₄.heap.IsListIter I l i ∧ Fr h₀ env.locals s₄.heap m' ∧ News h₀ env.locals s₄.heap nx ∧ (∀ p ∈ nx, p.1 ≠ I) ∧ J i m' nx ∧ Bare o s₄ := by
      intro hI9
      refine Classical.byContradiction fun hng9 => ?_
      obtain ⟨m₅, nw, nx₅, hB₅, F₅, N₅, hsub, hownm, hoff₅, hJ₅⟩ := hI9
      refine hng9 ?_
      clear hng9
      refine ⟨vs.length + 1 - (i + 1), by omega, i + 1, m₅, nx₅, hlt, rfl, ⟨oI, (N₅ _ (hownm _ (.head _))).1, rI⟩, F₅, fun p hp => N₅ p (hsub p hp), fun p hp => Ne.symm (hoff₅ _ (.head _) p.1 (List.mem_map.mpr ⟨p, hp, rfl⟩)), hJ₅, hB₅⟩
    cases f with
    | ret v => exact h₄
    | brk => exact h₄
    | next => exact fin h₄
    | cont => exact fin h₄
  · obtain rfl : i = vs.length := Nat.le_antisymm hi (Nat.not_lt.mp hlt)
    refine W.done _ _ _ ⟨hit, ls'⟩ fun h₂ tk₂ hk₂ => wpAny_execs_nil ?_
    exact done m' nx { s' with heap := h₂, toks := tk₂ } hJ hB' (fr_but F' hk₂ (Ne.symm hLI) hI0) (news_but N' hk₂ off)
/-- the same, of the frame only the names that are said -/
noncomputable def StF {σ : Type} (Led : σ → List (Addr × Obj)) (ps : σ → List (Str × Value)) (P : σ → Prop) (m' : Str → Option Value) (nx : List (Addr × Obj)) : Prop := ∃ c : σ, nx = Led c ∧ (∀ p ∈ ps c, m' p.1 = some p.2) ∧ P c
theorem kstB_self {m : Str → Option Value} {ps : List (Str × Value)} (hk : ∀ p ∈ ps, m p.1 = some p.2) : kstB m ps = m := funext fun _ => kstB_eq hk fun _ => rfl
theorem fr_forget {h₀ h : Heap} {L : Addr} {m : Str → Option Value} (F : Fr h₀ L h m) (ps : List (Str × Value)) (hk : ∀ p ∈ ps, m p.1 = some p.2) : ∃ u, Fr h₀ L h (kstB u ps) := ⟨m, by rw [kstB_self hk]; exact F⟩
theorem for_fr {σ : Type} {o : OsState} {l : Addr} {vs : List Value} {nn : Nat} {m₀ : Str → Option Value} (Led : σ → List (Addr × Obj)) (ps : σ → List (Str × Value)) (P : Nat → σ → Prop) (c₀ : σ)
    (hh : A.handled = none) (hl : ∀ i c, P i c → (l, listOf vs.toArray nn) ∈ Led c) (F : Fr h₀ env.locals s.heap m₀) (N : News h₀ env.locals s.heap (Led c₀)) (hB : Bare o s) (hk : ∀ p ∈ ps c₀, m₀ p.1 = some p.2) (hp : P 0 c₀)
    (turn : ∀ (c : σ) i v (u : Str → Option Value) s' own, vs[i]? = some v → OwnOff own ((Led c).map (·.1)) → (∀ p ∈ own, NoTxt p.2) → P i c → Bare o s' →
      Fr h₀ env.locals s'.heap (fun y => if y = x then some v else kstB u (ps c) y) → News h₀ env.locals s'.heap (Led c ++ own) →
      ∀ R : Flow → Shared → Prop, (∀ f s₂, ForP o h₀ env.locals own (StF Led ps (P (i + 1))) Q f s₂ → R f s₂) → wpAny (model prog w) A (execs body env) R E s')
    (done : ∀ (c : σ) (u : Str → Option Value) s', P vs.length c → Bare o s' → Fr h₀ env.locals s'.heap (kstB u (ps c)) → News h₀ env.locals s'.heap (Led c) → Q .next s') :
    ForR prog w A h₀ env x body Q E (.ref l) s := by
  refine ⟨o, l, vs, nn, fun i m nx => StF Led ps (P i) m nx, m₀, Led c₀, rfl, hh, F, N, hB, ?_, ⟨c₀, rfl, hk, hp⟩, ?_, ?_⟩
  · intro i m nx hI9
    refine Classical.byContradiction fun hng9 => ?_
    obtain ⟨c, rfl, _, hp'⟩ := hI9
    refine hng9 ?_
    clear hng9
    exact hl _ _ hp'
  · intro i v m₁ nx s' own hv hI9 hoff hnt hB' F₁ N₁ R hR
    refine Classical.byContradiction fun hng9 => ?_
    obtain ⟨c, rfl, h1, hp'⟩ := hI9
    refine hng9 ?_
    clear hng9
    exact turn c i v m₁ s' own hv hoff hnt hp' hB' (by rw [kstB_self h1]; exact F₁) N₁ R hR
  · intro m₁ nx s' hI9 hB' F₁ N₁
    refine Classical.byContradiction fun hng9 => ?_
    obtain ⟨c, rfl, h1, hp'⟩ := hI9
    refine hng9 ?_
    clear hng9
    exact done c m₁ s' hp' hB' (by rw [kstB_self h1]; exact F₁) N₁
theorem for_frE {σ : Type} {o : OsState} {Led : σ → List (Addr × Obj)} {ps : σ → List (Str × Value)} {m' : Str → Option Value} {P : σ → Prop} {own nw : List (Addr × Obj)} {s₂ : Shared} {L : Addr} (c : σ) (hB : Bare o s₂)
    (F : Fr h₀ L s₂.heap m') (N : News h₀ L s₂.heap nw) (hn : ∀ p ∈ Led c, p ∈ nw) (ho : ∀ p ∈ own, p ∈ nw) (ha : OwnOff own ((Led c).map (·.1))) (hk : ∀ p ∈ ps c, m' p.1 = some p.2) (hp : P c) :
    ForP o h₀ L own (StF Led ps P) Q .next s₂ := ⟨m', nw, Led c, hB, F, N, hn, ho, ha, c, rfl, hk, hp⟩
end
end

section
open PySem PySem.W PyProof.Rows PySem.Calls PyProof.Rows.LCg
/-! the same, its list stored in a name of the frame -/
section
variable {prog : Program} {w : World} {A : Around} {E : Value → Shared → Prop} {s : Shared} {h₀ : Heap} {L : Addr} {m : Str → Option Value} {env : Env}
noncomputable def GFinN (h₀ : Heap) (L : Addr) (m : Str → Option Value) (Q : Flow → Shared → Prop) (o : OsState) (z : Str) (J : Nat → List Value → List (Addr × Obj) → Prop) (vs : List Value) : Prop :=
  ∀ ys nw D s₂, J vs.length ys nw → Bare o s₂ → Fr h₀ L s₂.heap (fun y => if y = z then some (.ref D) else m y) → News h₀ L s₂.heap ((D, lst ys) :: nw) → Off1 D nw → Q .next s₂
noncomputable def GSrcN2 (prog : Program) (w : World) (A : Around) (h₀ : Heap) (L : Addr) (m : Str → Option Value) (env : Env) (elt i1 : Expr) (x y : Str) (scope : Scope) (cl : List (Str × Addr)) (z : Str) (Q : Flow → Shared → Prop) (xv : Value) (s₁ : Shared) : Prop :=
  ∃ (o : OsState) (J : Nat → Nat → List Value → List (Addr × Obj) → Prop) (ax bx : Addr) (vs ws : List Value) (nn mm : Nat) (news : List (Addr × Obj)), xv = .ref ax ∧ A.handled = none ∧ Fr h₀ L s₁.heap m ∧ News h₀ L s₁.heap news ∧ vs.length * ws.length + ws.length ≤ sizeLine ∧ (∀ i j ys nw, J i j ys nw → (ax, listOf vs.toArray nn) ∈ nw ∧ (bx, listOf ws.toArray mm) ∈ nw) ∧ (∀ i ys nw, J i ws.length ys nw → J (i + 1) 0 ys nw) ∧ J 0 0 [] news ∧ Bare o s₁ ∧ GTurn2 prog w A h₀ L m env elt x y scope cl o J vs ws ∧ GList2 prog w A h₀ L m env i1 scope cl o J bx ∧ GFinN h₀ L m Q o z (fun i ys nw => J i 0 ys nw) vs
theorem gsrc_mk {elt i1 : Expr} {x y z : Str} {scope : Scope} {cl : List (Str × Addr)} {Q : Flow → Shared → Prop} {s₁ : Shared} {o : OsState} (J : Nat → Nat → List Value → List (Addr × Obj) → Prop) {ax bx : Addr} {vs ws : List Value} {nn mm : Nat} {news : List (Addr × Obj)}
    (hh : A.handled = none) (F : Fr h₀ L s₁.heap m) (N : News h₀ L s₁.heap news) (hsz : vs.length * ws.length + ws.length ≤ sizeLine) (hsrc : ∀ i j ys nw, J i j ys nw → (ax, listOf vs.toArray nn) ∈ nw ∧ (bx, listOf ws.toArray mm) ∈ nw) (hstep : ∀ i ys nw, J i ws.length ys nw → J (i + 1) 0 ys nw) (hJ : J 0 0 [] news) (hB : Bare o s₁)
    (turn : GTurn2 prog w A h₀ L m env elt x y scope cl o J vs ws) (lst1 : GList2 prog w A h₀ L m env i1 scope cl o J bx) (fin : GFinN h₀ L m Q o z (fun i ys nw => J i 0 ys nw) vs) :
    GSrcN2 prog w A h₀ L m env elt i1 x y scope cl z Q (.ref ax) s₁ := ⟨o, J, ax, bx, vs, ws, nn, mm, news, rfl, hh, F, N, hsz, hsrc, hstep, hJ, hB, turn, lst1, fin⟩
theorem asgComp2 {elt i0 i1 : Expr} {x y : Str} {z : Str} {px py pz : Pos} {scope : Scope} {cl : List (Str × Addr)} {pos spos : Pos} {Q : Flow → Shared → Prop} (F₀ : Fr h₀ L s.heap m) (hLe : env.locals = L)
    (hsw : swapsWith (LC2 elt (.Name x px) i0 (.Name y py) i1 scope pos) (some (.Name z pz)) spos.line env = pure true)
    (hz : env.kindOf z = some .local) (hp : (env.scope.kind == .class || (env.scope.kind == .module && env.locals != env.globals)) = false)
    (hclos : closureFor scope env = pure cl) (hcell : ∀ y ∈ scope.names, y.2 ≠ .cell) (hkind : scope.kind = .function)
    (hnames : ∀ y ∈ scope.names, y.2 = .local → scope.names.lookup y.1 = some .local) (hxy : x ≠ y) (hx : scope.names.lookup x = some .local) (hy : scope.names.lookup y = some .local)
    (h : wpAny (model prog w) A (eval i0 env) (GSrcN2 prog w A h₀ L m env elt i1 x y scope cl z Q) E s)
    (hs : ∀ x, foldedSetIterable i0 env x = pure x := by intro _; rfl) (hs1 : ∀ e x, foldedSetIterable i1 e x = pure x := by intro _ _; rfl) :
    wpAny (model prog w) A (exec (.Assign [.Name z pz] (LC2 elt (.Name x px) i0 (.Name y py) i1 scope pos) spos) env) Q E s := by
  subst hLe
  rw [exec_Assign_Name_used _ _ _ _ hsw]
  refine wpAny_bind (wpAny_standAt (wpAny_bind ?_))
  show wpAny _ A (do let _ ← comprehension (LC2 elt (.Name x px) i0 (.Name y py) i1 scope pos) scope env _ (newList []) false (eval i0 env) (some (assign (.Name z pz) env))) _ _ s
  refine wpAny_bind (wpAny_mono (wpAny_comprehension_free (use := some (assign (.Name z pz) env)) (Q := fun _ s' => Q .next s') rfl hs hclos hkind hnames
    (wpAny_mono h (fun xv s₁ h₁ => ?_) fun _ _ e => e)) (fun _ s' hq => wpAny_pure (wpAny_pure hq)) fun _ _ e => e)
  refine Classical.byContradiction fun hng9 => ?_
  obtain ⟨o, J, ax, bx, vs, ws, nn, mm, news, rfl, hh, F, N, hsz, hsrc, hstep, hJ, hB₁, turn, lst1, fin⟩ := h₁
  refine hng9 ?_
  clear hng9
  have hl : s₁.heap.IsList ax vs.toArray := lst_at N (hsrc _ _ _ _ hJ).1
  have hlt : ax < s₁.heap.objs.size := by obtain ⟨_, e, _⟩ := hl; exact Heap.lt_size e
  have W := Walks.list (prog := prog) (w := w) hh s₁.heap.objs.size ax (Nat.ne_of_lt hlt) vs.toArray
  have hvl : vs.toArray.size = vs.length := by simp
  rw [hvl] at W
  refine wpAny_pyIter_list hl ?_
  have up1 : ∀ b o, s₁.heap.get? b = some o → (s₁.heap.push { cls := .type "list_iterator", data := .fields #[.ref ax, .int 0 0] }).get? b = some o := fun b o e => Heap.get?_push_of_some _ e
  have it1 : (s₁.heap.push { cls := .type "list_iterator", data := .fields #[.ref ax, .int 0 0] }).IsListIter s₁.heap.objs.size ax 0 := ⟨_, Heap.get?_push_size _ rfl, rfl, rfl⟩
  have sz1 : (s₁.heap.push { cls := .type "list_iterator", data := .fields #[.ref ax, .int 0 0] }).objs.size = s₁.heap.objs.size + 1 := Heap.size_push ..
  generalize s₁.heap.push { cls := .type "list_iterator", data := .fields #[.ref ax, .int 0 0] } = H1 at up1 it1 sz1 ⊢
  refine wpAny_newObj_type (wpAny_newFunctionEnv hcell (by intro y hy; simp at hy) (fun h₁ hns₁ hsb₁ => ?_) hkind)
  dsimp only at hns₁ hsb₁ ⊢
  generalize hH2 : H1.push { cls := .type "list", dict := none, data := .seq ([] : List Value).toArray } = H2 at hns₁ hsb₁ ⊢
  have sz2 : H2.objs.size = s₁.heap.objs.size + 2 := by rw [← hH2, Heap.size_push, sz1]
  generalize hI : s₁.heap.objs.size = I at *
  generalize hD : H1.objs.size = D at *
  generalize hC : H2.objs.size = C at *
  have hIC : @Ne Nat I C := by rw [sz2]; exact Nat.ne_of_lt (Nat.lt_succ_of_lt (Nat.lt_succ_self _))
  have hID : @Ne Nat I D := by rw [sz1]; exact Nat.ne_of_lt (Nat.lt_succ_self _)
  have hCD : @Ne Nat C D := by rw [sz1, sz2]; exact Nat.ne_of_gt (Nat.lt_succ_self _)
  have old : ∀ b o, H1.get? b = some o → h₁.get? b = some o := fun b o e => hsb₁.extBut b o (by
    have := Heap.lt_size e
    rw [hD, sz1] at this
    rw [sz2]
    exact Nat.ne_of_lt (Nat.lt_succ_of_lt this)) (Heap.get?_push_of_some _ (hH2 ▸ Heap.get?_push_of_some _ e))
  have hacc0 : H2.get? D = some (lst []) := by rw [← hD, ← hH2]; exact Heap.get?_push_size _ rfl
  have hacc : h₁.get? D = some (lst []) := hsb₁.extBut _ _ (Ne.symm hCD) (Heap.get?_push_of_some _ hacc0)
  have none0 : ∀ a : Addr, I ≤ a → h₀.get? a = none := fun a ha => by
    cases e : h₀.get? a with
    | none => rfl
    | some o => have e2 := Heap.lt_size (F.keep a o e); rw [hI] at e2; exact absurd e2 (Nat.not_lt.mpr ha)
  have hI₀ := none0 I (Nat.le_refl _)
  have hD₀ : h₀.get? D = none := none0 D (by rw [sz1]; exact Nat.le_succ _)
  have hC₀ : h₀.get? C = none := none0 C (by rw [sz2]; exact Nat.le_succ_of_le (Nat.le_succ _))
  have hLlt : env.locals < I := by have := F.ns.lt; rw [hI] at this; exact this
  have hIL : I ≠ env.locals := Ne.symm (Nat.ne_of_lt hLlt)
  have hDL : D ≠ env.locals := by rw [sz1]; exact Nat.ne_of_gt (Nat.lt_succ_of_lt hLlt)
  have hCL : C ≠ env.locals := by rw [sz2]; exact Nat.ne_of_gt (Nat.lt_succ_of_lt (Nat.lt_succ_of_lt hLlt))
  have off₀ : Off3 I C D news := Off3.of fun p hp => by
    have := Heap.lt_size (N p hp).1
    rw [hI] at this
    exact ⟨Nat.ne_of_lt this, by rw [sz2]; exact Nat.ne_of_lt (Nat.lt_succ_of_lt (Nat.lt_succ_of_lt this)), by rw [sz1]; exact Nat.ne_of_lt (Nat.lt_succ_of_lt this)⟩
  have loop : ∀ s₃ : Shared, s₃.heap = h₁ → Bare o s₃ →
      codeAny (model prog w) A (.compLoop (LC2 elt (.Name x px) i0 (.Name y py) i1 scope pos) 0 (.ref I) (.ref D) (compEnvC scope cl C env))
        (compPost (model prog w) A E (some (assign (.Name z pz) env)) (fun _ s' => Q .next s') (.ref D) C) s₃ := by
    intro s₃ hs₃ hB₃
    refine outer2 (nn := nn) (mm := mm) hh hxy hkind hx hy hsrc hsz hstep hIC hID hCD hIL hCL hDL hI₀ hC₀ hD₀ (Nat.ne_of_lt hlt) turn lst1 ?_ hs1 (vs.length + 1)
      ⟨0, [], _, news, Nat.zero_le _, rfl, hs₃ ▸ it1.at fun o e => old _ o e, hs₃ ▸ F.keeps fun b o e => old b o (up1 b o e), hs₃ ▸ hns₁, fun p hp => ?_, off₀, hJ, hB₃, by simp⟩
    · intro ys m' nw s' f1 f2 f3 f4 f5 f6
      show wpAny _ A (assign (.Name z pz) env (.ref D)) _ _ _
      refine wpAny_assign_Name (wpAny_storeName_local hz f1.ns (fun h₂ hn₂ hs₂ => ?_) hp)
      have hL₀ : h₀.get? env.locals = none := Heap.get?_none_of_le f1.above
      have F₂ : Fr h₀ env.locals h₂ (fun y => if y = z then some (.ref D) else m y) := ⟨hn₂, fun b o e => hs₂.extBut b o (fun q => by rw [q, hL₀] at e; cases e) (f1.keep b o e), f1.above⟩
      refine ⟨m', f2.sameBut hs₂ hCL, fun h'' hs'' => fin ys nw D { s' with heap := h'', toks := _ } f5 f6 (F₂.change hs'' hCL hC₀) (fun p hp => ?_) f4.one⟩
      have zz : h₂.get? p.1 = some p.2 := hs₂.extBut _ _ (f3 p hp).2.1 (f3 p hp).1
      refine ⟨hs''.extBut _ _ ?_ zz, (f3 p hp).2⟩
      rcases List.mem_cons.mp hp with rfl | hp
      · exact Ne.symm hCD
      · exact (f4.mem p hp).2.1
    · rcases List.mem_cons.mp hp with rfl | hp
      · exact ⟨hs₃ ▸ hacc, hDL, hD₀⟩
      · exact ⟨hs₃ ▸ old _ _ (up1 _ _ (N p hp).1), (N p hp).2⟩
  refine codeAny_compStart_list (loop _ rfl hB₁) (W.self 0 _ _ _ ⟨it1.at fun o e => old _ o e, ?_⟩ (loop _ rfl hB₁))
  exact hl.at fun o e => old _ o (up1 _ o e)
end
end

section
open PySem PySem.W PyProof.Rows PySem.Calls PyProof.Rows.LCg
/-! ends of turns: the ledger put in order -/
theorem comp2_end {h₀ h : Heap} {L I2 I C D D9 X : Addr} {oI2 oI oC oD o9 oX : Obj} {ex2 NW : List (Addr × Obj)} (N : News h₀ L h ((D9, o9) :: (X, oX) :: (I2, oI2) :: (I, oI) :: (C, oC) :: (D, oD) :: (ex2 ++ NW)))
    (l : ∀ p ∈ (X, oX) :: (I2, oI2) :: (I, oI) :: (C, oC) :: (D, oD) :: (ex2 ++ NW), p.1 < D9) (off : Off3 I C D (ex2 ++ NW)) (off2 : Off1 I2 (ex2 ++ NW)) (hex : ∀ p ∈ ex2, ∀ q ∈ NW, q.1 ≠ p.1) :
    News h₀ L h ((I2, oI2) :: (I, oI) :: (C, oC) :: (D, oD) :: (((D9, o9) :: ex2) ++ NW)) ∧ Off3 I C D (((D9, o9) :: ex2) ++ NW) ∧ Off1 I2 (((D9, o9) :: ex2) ++ NW) ∧ ∀ p ∈ (D9, o9) :: ex2, ∀ q ∈ NW, q.1 ≠ p.1 := by
  have ne : ∀ a o, (a, o) ∈ (X, oX) :: (I2, oI2) :: (I, oI) :: (C, oC) :: (D, oD) :: (ex2 ++ NW) → D9 ≠ a := fun a o ha => Ne.symm (Nat.ne_of_lt (l _ ha))
  refine ⟨fun p hp => N p ?_, ?_, ?_, ?_⟩
  · rcases List.mem_cons.mp hp with rfl | hp
    · exact .tail _ (.tail _ (.head _))
    rcases List.mem_cons.mp hp with rfl | hp
    · exact .tail _ (.tail _ (.tail _ (.head _)))
    rcases List.mem_cons.mp hp with rfl | hp
    · exact .tail _ (.tail _ (.tail _ (.tail _ (.head _))))
    rcases List.mem_cons.mp hp with rfl | hp
    · exact .tail _ (.tail _ (.tail _ (.tail _ (.tail _ (.head _)))))
    rcases List.mem_cons.mp hp with rfl | hp
    · exact .head _
    · exact .tail _ (.tail _ (.tail _ (.tail _ (.tail _ (.tail _ hp)))))
  · exact ⟨⟨ne I oI (.tail _ (.tail _ (.head _))), ne C oC (.tail _ (.tail _ (.tail _ (.head _)))), ne D oD (.tail _ (.tail _ (.tail _ (.tail _ (.head _)))))⟩, off⟩
  · exact ⟨ne I2 oI2 (.tail _ (.head _)), off2⟩
  · intro p hp q hq
    rcases List.mem_cons.mp hp with rfl | hp
    · exact Ne.symm (ne q.1 q.2 (.tail _ (.tail _ (.tail _ (.tail _ (.tail _ (List.mem_append.mpr (.inr hq))))))))
    · exact hex p hp q hq
theorem all2 {α : Type} {P : α → Prop} {a b : α} (ha : P a) (hb : P b) : ∀ p ∈ [a, b], P p := List.forall_mem_cons.mpr ⟨ha, List.forall_mem_cons.mpr ⟨hb, fun _ h => nomatch h⟩⟩
theorem all3 {α : Type} {P : α → Prop} {a b c : α} (ha : P a) (hb : P b) (hc : P c) : ∀ p ∈ [a, b, c], P p := List.forall_mem_cons.mpr ⟨ha, all2 hb hc⟩
theorem all4 {α : Type} {P : α → Prop} {a b c d : α} (ha : P a) (hb : P b) (hc : P c) (hd : P d) : ∀ p ∈ [a, b, c, d], P p := List.forall_mem_cons.mpr ⟨ha, all3 hb hc hd⟩
theorem all5 {α : Type} {P : α → Prop} {a b c d e : α} (ha : P a) (hb : P b) (hc : P c) (hd : P d) (he : P e) : ∀ p ∈ [a, b, c, d, e], P p := List.forall_mem_cons.mpr ⟨ha, all4 hb hc hd he⟩
theorem own_mk {own led : List (Addr × Obj)} (h : ∀ q ∈ led, ∀ p ∈ own, p.1 ≠ q.1) : OwnOff own (led.map (·.1)) := fun p hp b hb => by
  obtain ⟨q, hq, rfl⟩ := List.mem_map.mp hb
  exact h q hq p hp
theorem own_at {own led : List (Addr × Obj)} (h : OwnOff own (led.map (·.1))) : ∀ q ∈ led, ∀ p ∈ own, p.1 ≠ q.1 := fun q hq p hp => h p hp q.1 (List.mem_map.mpr ⟨q, hq, rfl⟩)
theorem tab_only {posL : Pos} {q : Str} {l l' : List (Addr × Obj)} {tb : Array Value} (h : TabOk posL q l tb) (hs : ∀ p ∈ l, p ∈ l' ∨ NoTxt p.2) : TabOk posL q l' tb := by
  refine ⟨h.tri, h.lam.imp id fun ⟨c, oc, vs, t, a, b, c2, d⟩ => ⟨c, oc, vs, t, a, ?_, c2, d⟩⟩
  rcases hs _ b with h | h
  · exact h
  · exact (h _ _ _ c2 d).elim
theorem tab_off {h₀ h : Heap} {L : Addr} {led : List (Addr × Obj)} {posL : Pos} {q : Str} {l : List (Addr × Obj)} {tb : Array Value} (N : News h₀ L h led) (hT : TabOk posL q l tb) (hl : ∀ p ∈ l, p ∈ led) (off : List (Addr × Obj)) (ho : ∀ p ∈ off, p ∈ led) (hnt : ∀ p ∈ off, NoTxt p.2) :
    ∃ l', (∀ p ∈ l', p ∈ l ∧ ∀ o ∈ off, o.1 ≠ p.1) ∧ TabOk posL q l' tb := by
  refine ⟨l.filter fun p => off.all fun o => decide (@Ne Nat o.1 p.1), fun p hp => ?_, hT.tri, hT.lam.imp id fun ⟨c, oc, vs, t, a, b, c2, d⟩ => ⟨c, oc, vs, t, a, List.mem_filter.mpr ⟨b, List.all_eq_true.mpr fun o hq => decide_eq_true fun e => ?_⟩, c2, d⟩⟩
  · obtain ⟨h1, h2⟩ := List.mem_filter.mp hp
    exact ⟨h1, fun o ho => of_decide_eq_true (List.all_eq_true.mp h2 o ho)⟩
  · have e1 := (N _ (hl _ b)).1
    have e2 := (N _ (ho _ hq)).1
    have e' : o.1 = c := e
    rw [e'] at e2
    cases (Option.some.inj (e1.symm.trans e2))
    exact hnt o hq _ _ _ c2 d
theorem eq_none_list {prog : Program} {w : World} {A : Around} {E : Value → Shared → Prop} {s : Shared} {h₀ : Heap} {L a : Addr} {nw : List (Addr × Obj)} {vs : List Value} {n : Nat} {Q : Value → Shared → Prop}
    (N : News h₀ L s.heap nw) (ha : (a, listOf vs.toArray n) ∈ nw) (hu : A.units < cLine) (h : Q (.bool false) s) : wpAny (model prog w) A (compareOp .Eq .none (.ref a)) Q E s := by
  show wpAny _ A (richCompare .Eq _ _) Q E s
  exact PySem.SeqAt.RcAt.none_list (lst_at N ha) hu prog w E Q h
theorem emp_eq {vs : List Value} {ns : List Str} (h : StrsAre vs ns) : vs.isEmpty = ((some ns : Option (List Str)) == some []) := by
  cases h with
  | nil => rfl
  | cons x t h => rfl
theorem emp_same {vs : List Value} {ns : List Str} (h : StrsAre vs ns) : vs.isEmpty = ns.isEmpty := by
  cases h with
  | nil => rfl
  | cons x t h => rfl
theorem no_list {its : Array Value} {n : Nat} : NoTxt (listOf its n) := fun _ _ _ e _ => by cases e
theorem no_cell {o : Obj} {v : Option Value} (h : o.data = .cell v) : NoTxt o := fun _ _ _ e _ => by rw [h] at e; cases e
theorem strs_at : ∀ {vs : List Value} {ys : List Str}, vs.length = ys.length → (∀ (i : Nat) v, vs[i]? = some v → ∃ z u, ys[i]? = some z ∧ v = Value.str z u) → StrsAre vs ys
  | [], [], _, _ => .nil
  | v :: vs, y :: ys, h, hv => by
    obtain ⟨z, u, h1, rfl⟩ := hv 0 v rfl
    cases h1
    exact .cons _ _ (strs_at (by simpa using h) fun i v hi => hv (i + 1) v (by simpa using hi))
end

section
open PySem PySem.W PyProof.Rows PySem.Calls
theorem mw_M1_0 : True := by
  k_with_none
  trivial
theorem mw_M1_1 : True := by
  (k_with "Mdrop" => first | assumption | (refine' cb_drop ?cbN ?cbS; (case cbN => assumption); (case cbS => kcj_all)))
  trivial
/-- a table of lists as the ledger has it -/
inductive Tab2 (led : List (Addr × Obj)) (news : List (Addr × Obj)) : List (Str × List Str) → List (Str × Value) → Prop
  | nil : Tab2 led news [] []
  | cons {x : Str} {ns : List Str} {D : Addr} {vs : List Value} {k : Nat} {r : List (Str × List Str)} {r' : List (Str × Value)} (hm : (D, listOf vs.toArray k) ∈ led) (hs : StrsAre vs ns) (hl : AllLt D news) (h : Tab2 led news r r') : Tab2 led news ((x, ns) :: r) ((x, .ref D) :: r')
theorem Tab2.at {led news : List (Addr × Obj)} {x : Str} : ∀ {tab : List (Str × List Str)} {kvs : List (Str × Value)}, Tab2 led news tab kvs →
    (((tab.find? fun q => q.1 == x).map (·.2)) = none ∧ valueAt kvs x = none) ∨ ∃ ns D vs k, ((tab.find? fun q => q.1 == x).map (·.2)) = some ns ∧ valueAt kvs x = some (.ref D) ∧ (D, listOf vs.toArray k) ∈ led ∧ StrsAre vs ns ∧ AllLt D news
  | _, _, .nil => .inl ⟨rfl, rfl⟩
  | _, _, .cons (x := y) hm hs hl h => by
    unfold valueAt
    rw [List.find?_cons, List.find?_cons]
    by_cases e : y = x
    · rw [show (y == x) = true from beq_iff_eq.mpr e, show (decide (y = x)) = true from decide_eq_true e]
      exact .inr ⟨_, _, _, _, rfl, rfl, hm, hs, hl⟩
    · rw [show (y == x) = false from beq_eq_false_iff_ne.mpr e, show (decide (y = x)) = false from decide_eq_false e]
      exact h.at
theorem Tab2.at2 {prog : Program} {w : World} {h₀ h : Heap} {L : Addr} {led news : List (Addr × Obj)} {x : Str} {tab : List (Str × List Str)} {kvs : List (Str × Value)} {o : Obj} (_ : News h₀ L h led) (_ : o.IsDictOf (PySem.strKind prog w) kvs) (t : Tab2 led news tab kvs) :
    (((tab.find? fun q => q.1 == x).map (·.2)) = none ∧ valueAt kvs x = none) ∨ ∃ ns D vs k, ((tab.find? fun q => q.1 == x).map (·.2)) = some ns ∧ valueAt kvs x = some (.ref D) ∧ (D, listOf vs.toArray k) ∈ led ∧ StrsAre vs ns ∧ AllLt D news := t.at
theorem mw_M1_2 : True := by
  (k_with "Mmem" => k_dflt (repeat (first | exact List.Mem.head _ | refine List.Mem.tail _ ?_)))
  (k_with "Mstr" => first | exact .nil | exact .cons _ _ .nil | exact .cons _ _ (.cons _ _ .nil))
  (k_with "call builtin:dict.get" => (k_here; refine stuck_at ?_))
  trivial
noncomputable def MeantO (news : List (Addr × Obj)) (x : Str) (n : List (Addr × Obj)) (r : Value) : Prop := (meantF x = none ∧ n = news ∧ r = .none) ∨ ∃ ns D vs k, meantF x = some ns ∧ r = .ref D ∧ n = (D, listOf vs.toArray k) :: news ∧ StrsAre vs ns ∧ AllLt D news
theorem meant_does (w : World) (mean : ExcName → Option Value) (mg mb : Str → Option Value) (news : List (Addr × Obj)) (x : Str) (t : Tok) :
  Does PySem.Challenge.rw_rx0110_01.row.prog w (hd.heap_39 w.params) topProg (looseW hd.view_39 [Str.ofString "_twin_re_1", Str.ofString "_special_chars_map"] ++ (recsOf hd.view_39).map (fun x => x.name) ++ (litsOf hd.view_39).map (fun x => x.1) ++ (clssOf hd.view_39 (looseW hd.view_39 [Str.ofString "_twin_re_1", Str.ofString "_special_chars_map"])).map (fun x => x.name)) mean mg mb 184 1 news [Value.str x t] (MeantO news x) := by
  k_fill
  unfold Does
  intro dp un gd cn cs a ccd cl outer A₀ base h₀ L m s Q E B F X N T hk hd hu hret
  refine wpAny_call ?_
  (k_dflt cell_enter)
  k_steps
  rename_i d1 h1 o1 l1 lo1 hd1 a1 h2 l2 a2 h3 l3 a3 h4 l4 a4 h5 l5 a5 h6 l6 a6 h7 l7 a7 h8 l8 a8 h9 l9 a9 hA lA aA hB lB aB hC lC aC hD lD aD hE lE hF oZ hdZ hG FZ NZ
  unfold Stuck
  with_reducible refine kdg_get1 (by assumption) (by walk_at "Mmem") hdZ (by assumption) (beq_self_eq_true _) _ rfl ?_
  have ht := Tab2.at2 (news := news) (x := x) (tab := meantT) NZ hdZ (.cons (D := a1) (by walk_at "Mmem") (by walk_at "Mstr") (l2.2) (.cons (D := a2) (by walk_at "Mmem") (by walk_at "Mstr") (l3.2.2) (.cons (D := a3) (by walk_at "Mmem") (by walk_at "Mstr") (l4.2.2.2) (.cons (D := a4) (by walk_at "Mmem") (by walk_at "Mstr") (l5.2.2.2.2) (.cons (D := a5) (by walk_at "Mmem") (by walk_at "Mstr") (l6.2.2.2.2.2) (.cons (D := a6) (by walk_at "Mmem") (by walk_at "Mstr") (l7.2.2.2.2.2.2) (.cons (D := a7) (by walk_at "Mmem") (by walk_at "Mstr") (l8.2.2.2.2.2.2.2) (.cons (D := a8) (by walk_at "Mmem") (by walk_at "Mstr") (l9.2.2.2.2.2.2.2.2) (.cons (D := a9) (by walk_at "Mmem") (by walk_at "Mstr") (lA.2.2.2.2.2.2.2.2.2) (.cons (D := aA) (by walk_at "Mmem") (by walk_at "Mstr") (lB.2.2.2.2.2.2.2.2.2.2) (.cons (D := aB) (by walk_at "Mmem") (by walk_at "Mstr") (lC.2.2.2.2.2.2.2.2.2.2.2) (.cons (D := aC) (by walk_at "Mmem") (by walk_at "Mstr") (lD.2.2.2.2.2.2.2.2.2.2.2.2) (.cons (D := aD) (by walk_at "Mmem") (by walk_at "Mstr") (lE.2.2.2.2.2.2.2.2.2.2.2.2.2) .nil)))))))))))))
  generalize valueAt _ x = ov at ht ⊢
  clear hdZ hd1
  rcases ht with ⟨hm, rfl⟩ | ⟨ns, D, vs, k, hm, rfl, hmem, hS, hlt⟩
  · k_steps
    exact hret news _ _ _ (.inl ⟨hm, rfl, rfl⟩) (by assumption) (by walk_at "Mdrop")
  · k_steps
    refine hret _ _ _ _ (.inr ⟨ns, D, vs, k, hm, rfl, rfl, hS, hlt⟩) (by assumption) ?_
    refine' cb_drop ?cbN ?cbS
    (case cbN => assumption)
    intro p hp
    rcases List.mem_cons.mp hp with e | hp
    · subst e; exact hmem
    · (repeat (first | exact hp | refine List.Mem.tail _ ?_))
end

section
open PySem PySem.W PyProof.Rows PySem.Calls PyProof.Rows.LCg
/-! a slice of ints with a step: some of the ints -/
theorem ints_get {vs : List Value} {ns : List Int} (h : IntsAre vs ns) : ∀ v ∈ vs, ∃ x t, v = .int x t := by
  induction h with
  | nil => intro v hv; cases hv
  | cons x t r ih =>
    intro v hv
    rcases List.mem_cons.mp hv with rfl | hv
    · exact ⟨x, t, rfl⟩
    · exact ih v hv
theorem ints_some : ∀ {vs : List Value}, (∀ v ∈ vs, ∃ x t, v = .int x t) → ∃ ns, IntsAre vs ns
  | [], _ => ⟨[], .nil⟩
  | v :: vs, h => by
    obtain ⟨x, t, rfl⟩ := h v (.head _)
    obtain ⟨ns, hn⟩ := ints_some fun v hv => h v (.tail _ hv)
    exact ⟨x :: ns, .cons x t hn⟩
theorem pick_mem {items : Array Value} {lo hi st : Option Int} : ∀ v ∈ (slicePick items lo hi st).toList, v ∈ items.toList := by
  intro v hv
  unfold slicePick at hv
  simp only [List.mem_filterMap] at hv
  obtain ⟨i, _, hi⟩ := hv
  obtain ⟨h1, h2⟩ := Array.getElem?_eq_some_iff.mp hi
  rw [← h2]
  exact Array.mem_toList_iff.mpr (Array.getElem_mem h1)
theorem pick_five (items : Array Value) (k : Nat) : (slicePick items (some (k : Int)) (some 30) (some 5)).toList.length ≤ 30 := by
  unfold slicePick
  refine Nat.le_trans (List.length_filterMap_le _ _) ?_
  have e : sliceBounds (some (k : Int)) (some 30) (some 5) items.size = (max 0 (min (k : Int) (items.size : Int)), max 0 (min 30 (items.size : Int)), 5) := by
    have h := int_nn k
    unfold sliceBounds
    simp [h]
  rw [e]
  unfold sliceRange
  dsimp only
  rw [List.length_map, List.length_range, if_pos (by decide : (5 : Int) > 0)]
  split
  · omega
  · decide
section
variable {prog : Program} {w : World} {A : Around} {E : Value → Shared → Prop} {s : Shared} {h₀ : Heap} {L l : Addr} {m : Str → Option Value} {news : List (Addr × Obj)} {vs : List Value} {ns : List Int}
/-- script[k:30:5] -/
theorem slice_five {value slice : Expr} {vl vu vk : Value} {ops : List Value} {k : Nat} {Q : Value → Shared → Prop} (F : Fr h₀ L s.heap m) (N : News h₀ L s.heap news) (hl : s.heap.IsList l vs.toArray) (hi : IntsAre vs ns) (pl : IsPart vl (some (k : Int))) (pu : IsPart vu (some 30)) (pk : IsPart vk (some 5))
    (h : ∀ D ws ms h', Fr h₀ L h' m → News h₀ L h' ((D, listOf (List.toArray ws) 0) :: news) → (∀ p ∈ news, p.1 < D) → IntsAre ws ms → ms.length ≤ 30 → Q (.ref D) { s with heap := h' })
    (hs : subscripted slice false (.ref l) (.ref s.heap.objs.size) = operate ops (getItem (.ref l) (.ref s.heap.objs.size))) (ht : ∀ r, letTemporaryGo value (.ref l) r = pure ()) (hz : vs.toArray.size ≤ sizeLine) :
    wpAny (model prog w) A (subscriptTail value slice (.ref l) (.ref s.heap.objs.size)) Q E { s with heap := s.heap.push { cls := .type "slice", data := .fields #[vl, vu, vk] } } := by
  obtain ⟨ms, hm⟩ := ints_some (vs := (slicePick vs.toArray (some (k : Int)) (some 30) (some 5)).toList) fun v hv => ints_get hi v (by simpa using pick_mem v hv)
  exact kmk_slice3_lit F N hl pl pu pk (by decide) rfl (fun D h' F' N' l1 => h D _ ms h' F' N' l1 hm (by rw [← hm.length]; exact pick_five _ _)) hs ht hz
end
end

section
open PySem PySem.W PyProof.Rows PySem.Calls PyProof.Rows.LCg
theorem stGo_len : ∀ (l kept : List Str) (debt : Nat), (stGo l kept debt).length ≤ l.length + kept.length + debt + 2
  | [], kept, debt => by
    unfold stGo stEnd
    split
    · simp only [List.length_cons, List.length_nil]; omega
    · simp only [List.length_cons, List.length_nil, List.length_append, List.length_replicate]; omega
  | p :: r, kept, debt => by
    unfold stGo
    have h1 := stGo_len r kept (debt + 1)
    have h2 := stGo_len r kept (debt - 1)
    have h3 := stGo_len r (p :: kept) debt
    have h4 := stGo_len r kept debt
    rw [List.length_cons] at h3
    rw [List.length_cons]
    split
    · rw [List.length_cons]; omega
    · split
      · omega
      · split
        · omega
        · split
          · omega
          · omega
theorem straightF_len (l : List Str) : (straightF l).length ≤ l.length + 2 := by
  have h := stGo_len l.reverse [] 0
  rw [List.length_reverse] at h
  exact h
structure PaS where
  vs : List Value
  n : Nat
structure DueS where
  U : Addr
  dv : List Value
  n : Nat
  oN : Obj
  ex : List (Addr × Obj)
structure PlS where
  PL : Addr
  pv : List Value
  n : Nat
  tb : Array Value
  ex : List (Addr × Obj)
noncomputable abbrev lamQ : Str := Str.ofString "_translate.<locals>.<lambda>"
structure TkS where
  TK : Addr
  tv : List Value
  n : Nat
  oN : Obj
  tb : Array Value
  ex : List (Addr × Obj)
structure NamS where
  N : Addr
  nv : List Value
  n : Nat
  oN : Obj
theorem app_vals {prog : Program} {w : World} {A : Around} {E : Value → Shared → Prop} {s : Shared} {h₀ : Heap} {L D : Addr} {m : Str → Option Value} {nw nw' : List (Addr × Obj)} {vs : List Value} {v : Value} {n : Nat} {Q : Value → Shared → Prop} (F : Fr h₀ L s.heap m) (N : News h₀ L s.heap nw) (hb : vs.length ≤ 1000000)
    (U : Upd D (listOf vs.toArray n) (listOf (vs ++ [v]).toArray (n + 1)) nw nw') (h : ∀ h', Fr h₀ L h' m → News h₀ L h' nw' → Q .none { s with heap := h' }) : wpAny (model prog w) A (call (.builtin "list.append") [.ref D, v]) Q E s := by
  refine append_K (its := vs.toArray) (n := n) F N (by simpa using U) h (by have := sizeLine_eq; simp; omega)
theorem ints_of : ∀ {vs : List Value} {ns : List Int}, vs.length = ns.length → (∀ (i : Nat) v, vs[i]? = some v → ∃ x u, ns[i]? = some x ∧ v = Value.int x u) → IntsAre vs ns
  | [], [], _, _ => .nil
  | v :: vs, n :: ns, h, hv => by
    obtain ⟨x, u, h1, rfl⟩ := hv 0 v rfl
    cases h1
    exact .cons _ _ (ints_of (by simpa using h) fun i v hi => hv (i + 1) v (by simpa using hi))
theorem int_at {vs : List Value} {ns : List Int} (h : IntsAre vs ns) : ∀ i, i < ns.length → ∃ z t, vs[i]? = some (.int z t) := by
  induction h with
  | nil => intro i h; cases h
  | cons x t r ih =>
    intro i h
    cases i with
    | zero => exact ⟨x, t, rfl⟩
    | succ i => exact ih i (Nat.lt_of_succ_lt_succ h)
theorem draw_mem (z : Int) : drawnT.getD (z.fmod 20).toNat (Str.ofString "") ∈ drawnT := by
  have h0 : 0 ≤ z.fmod 20 := Int.fmod_nonneg_of_pos _ (by decide)
  have h1 : z.fmod 20 < 20 := Int.fmod_lt_of_pos _ (by decide)
  have hz : (z.fmod 20).toNat < drawnT.length := by rw [show drawnT.length = 20 from rfl]; omega
  rw [List.getD, List.getElem?_eq_getElem hz]
  exact List.getElem_mem hz
theorem reorder8 {h₀ h : Heap} {L : Addr} {a1 a2 a3 a4 a5 a6 a7 a8 : Addr × Obj} (N : News h₀ L h [a1, a2, a3, a4, a5, a6, a7, a8]) : News h₀ L h [a7, a6, a1, a2, a3, a4, a5, a8] :=
  cb_drop N (by (repeat refine List.forall_mem_cons.mpr ⟨by k_mem, ?_⟩); exact fun _ h => nomatch h)
theorem cells_off {S1 U E P1 D1 L0 : Addr} {o2 o3 o4 o5 o6 o7 o8 : Obj} (o1 : Obj) (lS : AllLt S1 [(U, o2), (E, o3), (P1, o4), (D1, o5), (L0 + 1 + 1, o6), (L0 + 1, o7), (172, o8)])
    (lU : @LT.lt Nat _ E U ∧ @LT.lt Nat _ P1 U ∧ @LT.lt Nat _ D1 U ∧ @LT.lt Nat _ (L0 + 1 + 1) U ∧ @LT.lt Nat _ (L0 + 1) U ∧ @LT.lt Nat _ 172 U) (lE : @LT.lt Nat _ P1 E ∧ @LT.lt Nat _ D1 E ∧ @LT.lt Nat _ (L0 + 1 + 1) E ∧ @LT.lt Nat _ (L0 + 1) E ∧ @LT.lt Nat _ 172 E)
    (lP : @LT.lt Nat _ D1 P1 ∧ @LT.lt Nat _ (L0 + 1 + 1) P1 ∧ @LT.lt Nat _ (L0 + 1) P1 ∧ @LT.lt Nat _ 172 P1) (lD : @LT.lt Nat _ (L0 + 1 + 1) D1 ∧ @LT.lt Nat _ (L0 + 1) D1 ∧ @LT.lt Nat _ 172 D1) (l0 : @LT.lt Nat _ 172 L0) :
    ∀ p ∈ [(L0 + 1 + 1, o6), (S1, o1), (U, o2), (E, o3), (P1, o4), (D1, o5), (172, o8)], p.1 ≠ L0 + 1 :=
  List.forall_mem_cons.mpr ⟨Nat.ne_of_gt (Nat.lt_succ_self _), List.forall_mem_cons.mpr ⟨Nat.ne_of_gt lS.2.2.2.2.2.1, List.forall_mem_cons.mpr ⟨Nat.ne_of_gt lU.2.2.2.2.1, List.forall_mem_cons.mpr ⟨Nat.ne_of_gt lE.2.2.2.1, List.forall_mem_cons.mpr ⟨Nat.ne_of_gt lP.2.2.1, List.forall_mem_cons.mpr ⟨Nat.ne_of_gt lD.2.1, List.forall_mem_cons.mpr ⟨Nat.ne_of_lt (Nat.lt_succ_of_lt l0), fun _ h => nomatch h⟩⟩⟩⟩⟩⟩⟩
theorem law_room {n : Nat} (h : n ≤ 20) : callerA.depth + 1 + n < recursionLimit := by
  rw [depth_caller]; unfold recursionLimit; omega
theorem law_units {n : Nat} (h : n ≤ 20) : callerA.units + 3 + 8 * n < cLine := by
  have := cLine_is; rw [units_caller]; omega
theorem law_cl : callerA.units + 3 < cLine := by have := cLine_is; rw [units_caller]; omega
theorem mw_L1_0 : True := by
  k_with_none
  trivial
theorem mw_L1_1 : True := by
  (k_with "Mdrop" => first | assumption | (refine' cb_drop ?cbN ?cbS; (case cbN => assumption); (case cbS => kcj_all)))
  trivial
theorem mw_L1_2 : True := by
  (k_with "Muse" => (
        (case k1 => k_asm)
        (case k2 => k_asm)
        (case k3 => k_asm)
        (case k4 => k_asm)
        (case k5 => k_asm)
        (case k6 => exact rfl)
        (case k7 => exact law_room (by decide))
        (case k8 => exact law_units (by decide))))
  (k_with "Muse4" => (
        (case k1 => k_asm)
        (case k2 => k_asm)
        (case k3 => k_asm)
        (case k5 => k_asm)
        (case k6 => exact rfl)
        (case k7 => exact law_room (by decide))
        (case k8 => exact law_units (by decide))))
  (k_with "call ref" => (refine stuck_at ?_))
  (k_with "exec For Name Call cons nil" => (refine stuck_at ?_))
  (k_with "exec For Name Name cons nil" => (refine stuck_at ?_))
  (k_with "exec For Name Subscript cons nil" => (refine stuck_at ?_))
  (k_with "call type:range" => ((with_reducible show wpAny _ _ (call _ [_]) _ _ _); k_dflt (refine' range1_rows ?u1 ?u2 ?_; (case u1 => k_asm); (case u2 => k_asm); k_whole); intro _ _ _ _ _ _ _ _ _))
  (k_with "subscriptTail" => ((with_reducible show wpAny _ _ (subscriptTail (PySem.Expr.List _ _) _ _ _) _ _ _); k_dflt (refine kba_turn (value' := PySem.Expr.Name (PySem.Str.ofString "_") ⟨0, 0, 0, 0⟩) (fun _ => rfl) ?_); (refine stuck_at ?_)))
  (k_with "subscriptTail Name Slice ref ref" => (refine stuck_at ?_))
  (k_with "eval ListComp" => (k_here; k_dflt (refine LCg.ListComp_U (F₀ := by k_asm) (by rfl) (by decide) (by rfl) (by decide) (by rfl) ?_)))
  (k_with "subscriptTail Name BinOp ref int" => (refine stuck_at ?_))
  (k_with "callWith" => ((with_reducible show wpAny _ _ (callWith _ (Value.builtin _) [_] _ _) _ _ _); first | with_reducible refine callWith_method1 ?_ | with_reducible refine callWith_method0 ?_ | refine callWith_method1 ?_))
  (k_with "call builtin:list.append" => (k_here; k_dflt (refine' app_vals ?k1 ?k2 ?k3 ?k4 ?_; (case k1 => k_asm); (case k2 => k_asm); (case k3 => first | assumption | (simp only [List.length_append, List.length_singleton]; omega)); (case k4 => k_upd); k_whole); intro _ _ _))
  (k_with "Mapp" => k_dflt (exact List.mem_append_left _ hp))
  (k_with "Mown" => k_dflt (repeat (first | exact List.mem_append_right _ (by assumption) | assumption | refine List.Mem.tail _ ?_)))
  (k_with "pyIter ref" => ((with_reducible show wpAny _ _ (pyIter _) (fun _ _ => LoopAtV _ _ _ _ _ _ _ _ _ _ _) _ _); (refine stuck_at ?_)))
  (k_with "CompSrcT" => (refine stuck_at ?_))
  (k_with "CompSrc" => (refine stuck_at ?_))
  (k_with "exec Assign" => ((with_reducible show wpAny _ _ (exec (Stmt.Assign [Expr.Name _ _] (Expr.IfExp _ _ _ _) _) _) _ _ _); (fail_if_success (have : GoOn := by assumption)); (refine stuck_at ?_)))
  (k_with "eval ListComp" => ((with_reducible show wpAny _ _ (eval (Expr.ListComp _ [_, _] _ _) _) _ _ _); (refine stuck_at ?_)))
  (k_with "exec Assign cons ListComp" => ((with_reducible show wpAny _ _ (exec (Stmt.Assign _ (Expr.ListComp _ [_, _] _ _) _) _) _ _ _); (refine stuck_at ?_)))
  (k_with "binaryOp Add ref ref" => (refine stuck_at ?_))
  (k_with "subscriptTail Name Constant ref int" => (refine stuck_at ?_))
  (k_with "call builtin:str.join" => (refine stuck_at ?_))
  (k_with "binaryOp Add str str" => (refine stuck_at ?_))
  (k_with "call builtin:sorted" => (refine stuck_at ?_))
  (k_with "compareOp NotIn str ref" => (refine stuck_at ?_))
  (k_with "compareOp NotEq ref ref" => (refine stuck_at ?_))
  (k_with "compareOp Eq ref ref" => (refine stuck_at ?_))
  (k_with "compareOp Eq none ref" => (refine stuck_at ?_))
  (k_with "exec If" => ((with_reducible show wpAny _ _ (exec (Stmt.If (Expr.Compare _ _ [Expr.IfExp _ _ _ _] _) _ _ _) _) _ _ _); (fail_if_success (have : GoOn := by assumption)); (refine stuck_at ?_)))
  (k_with "eval ListComp" => ((with_reducible show wpAny _ _ (eval (Expr.ListComp _ [⟨_, _, [_], _⟩] _ _) _) _ _ _); k_here; k_dflt (refine LCt.ListComp_T (F₀ := by k_asm) (by rfl) (by decide) (by rfl) (by decide) (by rfl) ?_)))
  trivial
local macro_rules | `(tactic| k_all) => `(tactic| assumption)
local macro_rules | `(tactic| kn_posts) => `(tactic| (refine kn_postA (by assumption) (fun _ _ => rfl) ?_))
/-- the law's end -/
noncomputable def LawEnd (G : Heap) (L0 : Addr) (o : OsState) (f : Flow) (s' : Shared) : Prop := f = .ret (.bool true) ∧ Bare o s' ∧ ∃ m tb, Fr G L0 s'.heap m ∧ News G L0 s'.heap [(172, tabObj tb)]
theorem law_end {G : Heap} {L0 : Addr} {o : OsState} {s' s3 : Shared} {h : Heap} {b : Bool} {m : Str → Option Value} {tb : Array Value} (hb : b = true) (hB : Bare o s3) (e1 : s'.gens = s3.gens) (e2 : s'.os = s3.os) (e3 : s'.heap = h) (F : Fr G L0 h m) (N : News G L0 h [(172, tabObj tb)]) : LawEnd G L0 o (.ret (.bool b)) s' :=
  ⟨by rw [hb], ⟨by rw [e1]; exact hB.1, by rw [e2]; exact hB.2⟩, m, tb, by rw [e3]; exact F, by rw [e3]; exact N⟩
theorem law1 (said : PySem.Challenge.rw_rx0110_01.row.wellSaid = true) : PySem.Challenge.rw_rx0110_01.row.Holds := by
  w_on
  refine holds_open (q := hd.view_39) (loose := [Str.ofString "_twin_re_1", Str.ofString "_special_chars_map"]) (Xt := fun s => xlAt hd.view_39 [] s && recOk (RowW.records (OpenRow.toRowW PySem.Challenge.rw_rx0110_01.row)) s) (XP := XL hd.view_39 []) (Yf := (kmHook hd.heap_39 hdAs hdAs_eq [172]).obs) (Ya := (kmHook hd.heap_39 hdAs hdAs_eq [172]).val) (YP := (kmHook hd.heap_39 hdAs hdAs_eq [172]).says) (N := (12 + (1 + (980 + (1253 + 295))))) left (kmHook hd.heap_39 hdAs hdAs_eq [172]).of (kmHook hd.heap_39 hdAs hdAs_eq [172]).keeps (fun s e => xl_of s (Bool.and_eq_true_iff.mp e).1) XL.keeps (by rfl) (by rfl) (by rfl) (fun s e => recFacts_of (Bool.and_eq_true_iff.mp e).2) (by rfl) (by first | assumption | decide +kernel) (by decide +kernel) ⟨rfl, rfl, rfl, rfl, rfl, by decide +kernel⟩ ?hw ?hc
  case hw => w_witness2
  case hc =>
    clear said
    k_go0
    all_goals try k_fold
    (k_unmd)
    rename_i w0 sh0 sh1 mg mb G0 Y fa oo pm cd doc ho hcd hg Xm Vl Tt Bt TE TW ns hs0 hlay hL0 hr0 hl20 as1 as2 sa sv as3 hLs ra w1 r0 hIs hr1 hc1 hc2 hD1 h1 tk1 oA oB dA dB X0 X1 T1 K1 F1 N1 l0
    replace dA : oA.data = .cell none := dA
    replace dB : oB.data = .cell none := dB
    clear X0
    have hns : ns.length ≤ 63 := by omega
    have hLg := ghost_list hT9 hLs
    with_reducible refine wpAny_mono (Q := fun f s' => LawEnd (ghostOf sh1.heap [(176, 172)]) sh1.heap.objs.size sh1.os f s') (E := fun _ _ => False) ?_ ?_ ?_
    · have hgB : AllBare sh1.gens := .of_eq hg
      generalize ghostOf sh1.heap [(176, 172)] = G at *
      generalize sh1.heap.objs.size = L0 at *
      clear hcd hD1 ho hg Xm Vl Tt Bt TE TW hs0 hlay hL0 hr0 hl20 hr1 hc1 hc2 ra w1 r0 hLs G0 Y hT8 hT9
      k_steps
      rename_i D1 h2 l1 h3 x3 P1 h4 l2 h5 F5 N5
      unfold Stuck
      obtain ⟨dv, hdv, N6⟩ : ∃ dv, StrsAre dv drawnT ∧ News G L0 h5 ((P1, listOf ([] : List Value).toArray 0) :: (D1, listOf dv.toArray 0) :: (L0 + 1 + 1, oA) :: (L0 + 1, oB) :: (172, tabObj #[]) :: []) := ⟨_, (.cons _ _ (.cons _ _ (.cons _ _ (.cons _ _ (.cons _ _ (.cons _ _ (.cons _ _ (.cons _ _ (.cons _ _ (.cons _ _ (.cons _ _ (.cons _ _ (.cons _ _ (.cons _ _ (.cons _ _ (.cons _ _ (.cons _ _ (.cons _ _ (.cons _ _ (.cons _ _ .nil)))))))))))))))))))), N5⟩
      clear N5
      refine For_invVF F5 rfl rfl ?_
      (k_unmd)
      k_steps
      rename_i hR tkR tR uR vR RR FR NR KR
      unfold Stuck
      refine range_st (σ := PaS) (n := 5) (fun c => (P1, listOf c.vs.toArray c.n) :: (D1, listOf dv.toArray 0) :: (L0 + 1 + 1, oA) :: (L0 + 1, oB) :: (172, tabObj #[]) :: []) (fun _ => []) []
        (fun i c => ∃ l, StrsAre c.vs l ∧ l.length = i ∧ ∀ p ∈ l, p ∈ drawnT) ⟨[], 0⟩ rfl RR (by decide) (by decide) FR NR (fun _ h => nomatch h) ⟨[], .nil, rfl, fun _ h => nomatch h⟩ ?_ ?_
      · intro c i ti u h tk own hi hoff hP F7 N7
        obtain ⟨pv, pn⟩ := c
        refine Classical.byContradiction fun hng9 => ?_
        obtain ⟨l, hl, hll, hlm⟩ := hP
        refine hng9 ?_
        clear hng9
        dsimp only at hl hoff F7 N7 ⊢
        simp only [List.cons_append, List.nil_append] at N7
        have hallP : ∀ p ∈ (D1, listOf dv.toArray 0) :: (L0 + 1 + 1, oA) :: (L0 + 1, oB) :: (172, tabObj #[]) :: own, p.1 ≠ P1 :=
          List.forall_mem_cons.mpr ⟨Nat.ne_of_lt l2.1, List.forall_mem_cons.mpr ⟨Nat.ne_of_lt l2.2.1, List.forall_mem_cons.mpr ⟨Nat.ne_of_lt l2.2.2.1, List.forall_mem_cons.mpr ⟨Nat.ne_of_lt l2.2.2.2, fun p hp => hoff p hp P1 (.head _)⟩⟩⟩⟩
        (k_unmd)
        (try k_fold)
        k_steps
        rename_i lX hX fX NX l1X
        unfold Stuck
        obtain ⟨cv, hcv, NX2⟩ : ∃ cv, IntsAre cv [8, 11, 2, 0, 10] ∧ News G L0 hX ((lX, listOf cv.toArray 0) :: (P1, listOf pv.toArray pn) :: (D1, listOf dv.toArray 0) :: (L0 + 1 + 1, oA) :: (L0 + 1, oB) :: (172, tabObj #[]) :: own) := ⟨_, .cons _ _ (.cons _ _ (.cons _ _ (.cons _ _ (.cons _ _ .nil)))), NX⟩
        clear NX
        obtain ⟨z, tz, hz⟩ := int_at hcv i hi
        refine item_vals i NX2 (.head _) rfl (by omega) hz ?_
        (k_unmd)
        k_steps
        unfold Stuck
        have hvl : sv.length ≤ 63 := by rw [hIs.length]; exact hns
        rename Fr G _ _ _ => FG9
        refine' slice_five (k := i) ?F ?N ?l hIs (IsPart.int _ _) (IsPart.int _ _) (IsPart.int _ _) ?_ ?s ?t ?z
        (case F => k_asm)
        (case N => k_asm)
        (case l => exact hLg.at fun o e => FG9.keep _ _ e)
        (case s => with_unfolding_all rfl)
        (case t => kmk_pure)
        (case z => rw [List.size_toArray, sizeLine_eq]; omega)
        intro D5 ws ms h5 F5 N5 l5 hI5 hm5
        have hwl : ws.length ≤ 30 := by rw [hI5.length]; exact hm5
        (k_unmd)
        k_steps
        unfold Stuck
        refine CompSrc.ledger rfl F5 N5 (.head _) (by rw [List.size_toArray, sizeLine_eq]; omega) ?_
        intro g9
        refine comp_map (fun i y => ∃ u, y = Value.int ((ms.getD i 0).fmod 20) u) (.inr ⟨_, .head _, rfl, _, rfl⟩) ?_ ?_
        · intro j zs v I oI C oC D2 m2 h2 tk2 E2 hj hv hC hx2 F2 N2 off ne
          refine Classical.byContradiction fun hng9 => ?_
          obtain ⟨x, tx, rfl, hx⟩ := ints_item hI5 j v (by simpa using hv)
          refine hng9 ?_
          clear hng9
          have hxd : ms.getD j 0 = x := by simp [List.getD, hx]
          (try k_unmd)
          (try k_fold)
          k_steps
          all_goals first | assumption | (rw [hxd])
        · intro zs hzl hzr
          have hIz : IntsAre zs (ms.map fun x => x.fmod 20) := by
            refine ints_of (by rw [hzl, List.size_toArray, List.length_map, hI5.length]) fun i v hi => ?_
            obtain ⟨u, rfl⟩ := hzr i v hi
            have hlt : i < ms.length := by have := (List.getElem?_eq_some_iff.mp hi).1; rw [hzl, List.size_toArray, hI5.length] at this; exact this
            refine ⟨_, u, ?_, rfl⟩
            rw [List.getElem?_map, List.getElem?_eq_getElem hlt]
            simp [List.getD, hlt]
          unfold FinE
          intro D6 h6 tk6 F6 N6 o6
          dsimp only
          (k_unmd)
          k_steps
          unfold Stuck
          refine item_sel (ys := drawnT) (by k_asm) (.tail _ (.tail _ (.tail _ (.tail _ (.head _))))) hdv (Int.fmod_nonneg_of_pos _ (by decide)) (Int.fmod_lt_of_pos _ (by decide)) (by decide) ?_
          intro t8
          rename News G _ _ _ => NS9
          have N11 := cb_drop (news := (P1, listOf pv.toArray pn) :: (D1, listOf dv.toArray 0) :: (L0 + 1 + 1, oA) :: (L0 + 1, oB) :: (172, tabObj #[]) :: own) NS9 fun p hp => .tail _ (.tail _ (.tail _ hp))
          clear NS9
          have hpl : pv.length ≤ 1000000 := by rw [hl.len_eq, hll]; omega
          (k_unmd)
          k_steps
          refine st_end (⟨pv ++ [Value.str _ t8], pn + 1⟩ : PaS) (by assumption) (by assumption) (fun p hp => by walk_at "Mapp") (fun p hp => by walk_at "Mown") hoff (fun _ h => nomatch h) (by intro z hz _ _; exact (if_neg hz).trans rfl) ⟨_, strs_snoc hl, by rw [List.length_append, hll]; rfl, fun p hp => ?_⟩
          rcases List.mem_append.mp hp with hp | hp
          · exact hlm p hp
          · rw [List.mem_singleton.mp hp]
            exact draw_mem _
      · intro c u h tk hP F7 N7
        obtain ⟨pv, pn⟩ := c
        refine Classical.byContradiction fun hng9 => ?_
        obtain ⟨parts, hl, hll, hlm⟩ := hP
        refine hng9 ?_
        clear hng9
        dsimp only at hl F7 N7
        have hpn : parts.length = 5 := hll
        have hdr : ∀ p ∈ parts, Dr p := fun p hp => drawn_ok p (hlm p hp)
        have hkd : ∀ p ∈ parts, Kd p := fun p hp => (hdr p hp).kd
        have hsz : ∀ p ∈ parts, p.length ≤ 8 := fun p hp => by
          cases hdr p hp with
          | sp _ _ _ h => exact h
          | pat _ _ _ h => exact h
        clear hlm hll
        (k_unmd)
        dsimp only
        k_steps
        unfold Stuck
        k_dflt (refine' @Does.use _ _ _ _ _ _ _ _ _ _ _ _ _ _ _ _ _ _ _ _ _ _ _ _ _ _ _ _ _ _ ?k1 ?k2 ?k3 ?k4 ?k5 ?k6 ?k7 ?k8 ?k9 ?_)
        (case k4 => k_asm)
        (case k9 => exact straight_does _ _ _ _ _ P1 pv pn parts hl (.tail _ (.tail _ (.head _))) (by omega) (fun p hp => Nat.le_trans (hsz p hp) (by decide)))
        walk_at "Muse4"
        intro n' r' h8 tk8 hR F8 N8
        refine Classical.byContradiction fun hng9 => ?_
        obtain ⟨S1, sv1, sk, rfl, rfl, hS1, hlS⟩ := hR
        refine hng9 ?_
        clear hng9
        have N9 := reorder8 N8
        have hC := cells_off (listOf sv1.toArray sk) hlS (by assumption) (by assumption) (by assumption) (by assumption) (by assumption)
        clear N8
        (k_unmd)
        k_steps
        unfold Stuck
        refine for_G (h₀ := G) rfl rfl ?_
        k_steps
        unfold Stuck
        refine' kmk_slice_lit (l := S1) (zs := sv1.drop 1) ?F ?N ?l (IsPart.int _ _) .none (congrArg Array.toList (from_vals sv1 1)) ?_ ?s ?t ?z
        (case F => k_asm)
        (case N => k_asm)
        (case l => exact News.isList (by k_asm) (.tail _ (.tail _ (.head _))))
        (case s => with_unfolding_all rfl)
        (case t => kmk_pure)
        (case z => rw [List.size_toArray, sizeLine_eq, hS1.len_eq]; have := straightF_len parts; omega)
        intro D5 h5 F5 N5 l5
        (k_unmd)
        (try k_fold)
        rename_i E1 hE lE1 U hU FU NU lU hU2 tkU hS9 oS FS9 NS9 dS
        clear RR KR hdv FU NU FS9 NS9
        obtain ⟨pl, hpl⟩ : ∃ pl, pl = (straightF parts).drop 1 := ⟨_, rfl⟩
        have hst : ∀ p ∈ pl, StP p := by rw [hpl]; exact straight_pieces hdr
        have hpll : pl.length ≤ 6 := by rw [hpl, List.length_drop]; have := straight_len hdr; omega
        have hS1d : StrsAre (sv1.drop 1) pl := by rw [hpl]; exact hS1.drop' 1
        have lN := l5 (L0 + 1 + 1, oA) (.tail _ (.head _))
        obtain ⟨K, hK⟩ : ∃ K : List (Addr × Obj), K = [(D5, listOf (sv1.drop 1).toArray 0), (L0 + 1, oS), (S1, listOf sv1.toArray sk), (P1, listOf pv.toArray pn), (172, tabObj #[])] := ⟨_, rfl⟩
        have hKN : ∀ p ∈ K, p.1 ≠ L0 + 1 + 1 := by
          rw [hK]
          exact List.forall_mem_cons.mpr ⟨Nat.ne_of_gt lN, List.forall_mem_cons.mpr ⟨Nat.ne_of_lt (Nat.lt_succ_self _), List.forall_mem_cons.mpr ⟨Nat.ne_of_gt hlS.2.2.2.2.1, List.forall_mem_cons.mpr ⟨Nat.ne_of_gt l2.2.1, List.forall_mem_cons.mpr ⟨Nat.ne_of_lt (Nat.lt_succ_of_lt (Nat.lt_succ_of_lt l0)), fun _ h => nomatch h⟩⟩⟩⟩⟩
        have hKD : (D5, listOf (sv1.drop 1).toArray 0) ∈ K := by rw [hK]; exact .head _
        have N6 : News G L0 h5 ((L0 + 1 + 1, oA) :: (U, listOf [Value.ref E1].toArray 0) :: ([(E1, listOf ([] : List Value).toArray 0)] ++ K)) := cb_drop N5 (by
          rw [hK]
          exact List.forall_mem_cons.mpr ⟨.tail _ (.tail _ (.head _)), List.forall_mem_cons.mpr ⟨.tail _ (.tail _ (.tail _ (.tail _ (.head _)))), List.forall_mem_cons.mpr ⟨.tail _ (.tail _ (.tail _ (.tail _ (.tail _ (.head _))))), List.forall_mem_cons.mpr ⟨.head _, List.forall_mem_cons.mpr ⟨.tail _ (.head _), List.forall_mem_cons.mpr ⟨.tail _ (.tail _ (.tail _ (.head _))), List.forall_mem_cons.mpr ⟨.tail _ (.tail _ (.tail _ (.tail _ (.tail _ (.tail _ (.head _)))))), List.forall_mem_cons.mpr ⟨.tail _ (.tail _ (.tail _ (.tail _ (.tail _ (.tail _ (.tail _ (.tail _ (.head _)))))))), fun _ h => nomatch h⟩⟩⟩⟩⟩⟩⟩⟩)
        clear N5 l5
        refine for_fr (σ := DueS) (o := sh1.os) (fun c => (L0 + 1 + 1, c.oN) :: (c.U, listOf c.dv.toArray c.n) :: (c.ex ++ K)) (fun c => [(Str.ofString "due", .ref c.U), (Str.ofString "parts", .ref P1)])
          (fun i c => (∃ v, c.oN.data = .cell v) ∧ LstsAt c.ex c.dv (choices (pl.take i)) ∧ ∀ p ∈ (c.U, listOf c.dv.toArray c.n) :: c.ex, p.1 ≠ L0 + 1 + 1) ⟨U, [.ref E1], 0, oA, [(E1, listOf ([] : List Value).toArray 0)]⟩ rfl
          (fun i c _ => .tail _ (.tail _ (List.mem_append.mpr (.inr hKD)))) F5 N6 ⟨hgB, rfl⟩ (all2 rfl rfl)
          ⟨⟨_, dA⟩, .cons (.head _) .nil .nil, List.forall_mem_cons.mpr ⟨Nat.ne_of_gt lU.2.2.2.1, List.forall_mem_cons.mpr ⟨Nat.ne_of_gt lE1.2.2.1, fun _ h => nomatch h⟩⟩⟩ ?_ ?_
        · intro c i v u9 s9 own hv hoff hnt9 hP hB9 F9 N9 R9 hR9
          obtain ⟨Due, dv9, dn, oN, ex⟩ := c
          refine Classical.byContradiction fun hng9 => ?_
          obtain ⟨⟨vN, dN⟩, hrows, hexN⟩ := hP
          obtain ⟨y, ty, rfl, hy⟩ := StrsAre.item hS1d i v hv
          refine hng9 ?_
          clear hng9
          dsimp only at dN hrows hexN hoff F9 N9 ⊢
          have hyp : StP y := hst y (List.mem_of_getElem? hy)
          simp only [List.cons_append] at N9
          have hall : ∀ p ∈ (Due, listOf dv9.toArray dn) :: (ex ++ K ++ own), p.1 ≠ L0 + 1 + 1 :=
            List.forall_mem_cons.mpr ⟨hexN _ (.head _), fun p hp => (List.mem_append.mp hp).elim (fun h => (List.mem_append.mp h).elim (fun h => hexN p (.tail _ h)) (hKN p)) fun h => hoff p h _ (.head _)⟩
          (k_unmd)
          (try k_fold)
          k_steps
          unfold Stuck
          refine cutK (σ := NamS) F9 (fun c : NamS => (L0 + 1 + 1, c.oN) :: (c.N, listOf c.nv.toArray c.n) :: (Due, listOf dv9.toArray dn) :: (ex ++ K ++ own)) (fun _ => []) []
            (fun c => c.oN.data = .cell (some (.ref c.N)) ∧ StrsAre c.nv (namesOf y) ∧ c.N ≠ L0 + 1 + 1) ?_ ?_
          · intro Rc hC9
            have hgo := goOn
            walk_at "exec Assign"
            k_steps
            · rename_i lb hb1 FA NA la hb2 oA2 FB NB dB2
              refine hC9 _ (meetK (⟨_, [Value.str y ty], 0, oA2⟩ : NamS) FB NB (List.forall_mem_cons.mpr ⟨.tail _ (.tail _ (.head _)), List.forall_mem_cons.mpr ⟨.head _, fun p hp => .tail _ (.tail _ (.tail _ hp))⟩⟩) (fun _ h => nomatch h) (fun _ _ _ => rfl) ⟨dB2, ?_, Nat.ne_of_gt la.2.1⟩)
              rw [names_in (by assumption)]
              exact .cons _ _ .nil
            · unfold Stuck
              rename_i lb hb1 FA NA la ha9
              k_dflt (refine' @Does.use _ _ _ _ _ _ _ _ _ _ _ _ _ _ _ _ _ _ _ _ _ _ _ _ _ _ _ _ _ _ ?k1 ?k2 ?k3 ?k4 ?k5 ?k6 ?k7 ?k8 ?k9 ?_)
              (case k4 => k_asm)
              (case k9 => exact meant_does _ _ _ _ _ y ty)
              walk_at "Muse4"
              intro n' r' h8 tk8 hR F8 N8
              refine Classical.byContradiction fun hng9 => ?_
              obtain ⟨ns9, hm9, hn9⟩ := out_pat hyp ha9
              rcases hR with ⟨hm8, _, _⟩ | ⟨ns8, D8, vs8, k8, hm8, rfl, rfl, hS8, lD8⟩
              · rw [hm8] at hm9; cases hm9
              obtain rfl : ns8 = ns9 := Option.some.inj (hm8.symm.trans hm9)
              refine hng9 ?_
              clear hng9 NA
              have lD9 : @LT.lt Nat _ (L0 + 1 + 1) D8 := lD8.2.1
              (k_unmd)
              k_steps
              rename_i hb2 oA2 FB NB dB2
              refine hC9 _ (meetK (⟨D8, vs8, k8, oA2⟩ : NamS) FB NB (List.forall_mem_cons.mpr ⟨.tail _ (.tail _ (.head _)), List.forall_mem_cons.mpr ⟨.head _, fun p hp => .tail _ (.tail _ (.tail _ hp))⟩⟩) (fun _ h => nomatch h) (fun _ _ _ => rfl) ⟨dB2, ?_, Nat.ne_of_gt lD9⟩)
              rw [hn9]
              exact hS8
          · intro c u8 h8 tk8 hP8 F8 N8
            obtain ⟨N1, nv, nn, oN1⟩ := c
            refine Classical.byContradiction fun hng9 => ?_
            obtain ⟨dN1, hnv, hN1⟩ := hP8
            refine hng9 ?_
            clear hng9
            dsimp only at dN1 hnv hN1 F8 N8
            refine (fr_forget F8 [(Str.ofString "due", .ref Due), (Str.ofString "parts", .ref P1)] (all2 rfl rfl)).elim fun uz8 FQ => ?_
            clear F8
            have F8 := FQ
            clear FQ
            have hN1l := stp_names hyp
            (k_unmd)
            k_steps
            unfold Stuck
            k_dflt (refine asgComp2 (F₀ := by k_asm) (by rfl) (by with_unfolding_all rfl) (by rfl) (by rfl) (by rfl) (by decide) (by rfl) (by decide) (by decide) (by rfl) (by rfl) ?_)
            k_steps
            have hdl : dv9.length ≤ 64 := by rw [hrows.len]; exact Nat.le_trans (rows_sz (l := pl.take i) (fun p hp => hst p (List.mem_of_mem_take hp))).1 (pow_le6 (Nat.le_trans (List.length_take_le' _ _) hpll))
            have hnl : nv.length ≤ 2 := by rw [hnv.len_eq]; exact hN1l.1
            have hdn : dv9.length * nv.length + nv.length ≤ sizeLine := by
              have := Nat.mul_le_mul hdl hnl
              rw [sizeLine_eq]; omega
            obtain ⟨NW, hNW⟩ : ∃ NW, NW = (L0 + 1 + 1, oN1) :: (N1, listOf nv.toArray nn) :: (Due, listOf dv9.toArray dn) :: (ex ++ K ++ own) := ⟨_, rfl⟩
            rw [← hNW] at N8
            have hmD : (Due, listOf dv9.toArray dn) ∈ NW := by rw [hNW]; exact .tail _ (.tail _ (.head _))
            have hmN : (N1, listOf nv.toArray nn) ∈ NW := by rw [hNW]; exact .tail _ (.head _)
            have hmC : (L0 + 1 + 1, oN1) ∈ NW := by rw [hNW]; exact .head _
            have hmE : ∀ p ∈ ex, p ∈ NW := fun p hp => by rw [hNW]; exact .tail _ (.tail _ (.tail _ (List.mem_append.mpr (.inl (List.mem_append.mpr (.inl hp))))))
            have hmK : ∀ p ∈ K, p ∈ NW := fun p hp => by rw [hNW]; exact .tail _ (.tail _ (.tail _ (List.mem_append.mpr (.inl (List.mem_append.mpr (.inr hp))))))
            have hmO : ∀ p ∈ own, p ∈ NW := fun p hp => by rw [hNW]; exact .tail _ (.tail _ (.tail _ (List.mem_append.mpr (.inr hp))))
            clear hNW
            refine gsrc_mk (o := sh1.os) (bx := N1) (ws := nv) (vs := dv9) (nn := dn) (mm := nn) (fun a b ys nw => ∃ ex2, nw = ex2 ++ NW ∧ LstsAt ex2 ys (doneG (fun (row : List Str) n => row ++ [n]) (namesOf y) (choices (pl.take i)) a b) ∧ ∀ p ∈ ex2, ∀ q ∈ NW, q.1 ≠ p.1) rfl F8 N8 hdn ?_ ?_ ⟨[], rfl, by rw [done_start]; exact .nil, fun _ h => nomatch h⟩ hB9 ?_ ?_ ?_
            · rintro a b ys nw ⟨ex2, rfl, -, -⟩
              exact ⟨List.mem_append.mpr (.inr hmD), List.mem_append.mpr (.inr hmN)⟩
            · rintro a ys nw ⟨ex2, rfl, h1, h2⟩
              rw [hnv.len_eq, done_row] at h1
              exact ⟨ex2, rfl, h1, h2⟩
            · rintro a b v1 v2 ys nw I2 oI2 I oI C oC D m2 s2 E2 hv1 hv2 ⟨ex2, rfl, hL2, hex2⟩ hB2 hC2 hx2 hy2 F2 N2 off off2
              refine Classical.byContradiction fun hng9 => ?_
              obtain ⟨Dr, nr, vr, row, rfl, hrow, hmr, hir⟩ := hrows.at a v1 hv1
              obtain ⟨n, tn, rfl, hn⟩ := StrsAre.item hnv b v2 hv2
              refine hng9 ?_
              clear hng9
              have hrl : row.length ≤ 6 := by
                have h1 := ((rows_sz (l := pl.take i) (fun p hp => hst p (List.mem_of_mem_take hp))).2 row (List.mem_of_getElem? hrow)).1
                rw [h1]; exact Nat.le_trans (List.length_take_le' _ _) hpll
              k_steps
              unfold Stuck
              rename_i lX hX FX NX lX1
              refine add_vals (vs := vr) (ws := [Value.str n tn]) FX NX (.tail _ (.tail _ (.tail _ (.tail _ (.tail _ (List.mem_append.mpr (.inr (hmE _ hmr)))))))) (.head _) (by rw [hir.len_eq, List.length_singleton]; omega) ?_
              intro D9 h9' FD ND lD
              obtain ⟨e1, e2, e3, e4⟩ := comp2_end ND lD off off2 hex2
              exact ⟨_, hB2, FD, e1, e2, e3, _, rfl, by rw [done_next hrow hn]; exact LstsAt.snoc (.head _) (strs_snoc hir) (hL2.mono fun p hp => .tail _ hp), e4⟩
            · rintro a ys nw I oI C oC D m2 s2 E2 ⟨ex2, rfl, -, -⟩ hB2 hC2 F2 N2 off
              refine lcf_cell (c := L0 + 1 + 1) N2 (by rfl) (.tail _ (.tail _ (.tail _ (List.mem_append.mpr (.inr hmC))))) dN1 ⟨rfl, s2.toks, rfl⟩ (by rfl) (by rfl)
            · rintro ys nw D s2 ⟨ex2, rfl, h1, h2⟩ hB2 F2 N2 off
              have offm := mem1 off
              rw [hrows.len, done_all] at h1
              k_steps
              refine hR9 _ _ (for_frE (⟨D, ys, ys.length, oN1, ex2 ++ ex⟩ : DueS) hB2 F2 N2 ?_ (fun p hp => .tail _ (List.mem_append.mpr (.inr (hmO p hp)))) (own_mk ?_) (all2 rfl rfl) ⟨⟨_, dN1⟩, ?_, ?_⟩)
              · refine List.forall_mem_cons.mpr ⟨.tail _ (List.mem_append.mpr (.inr hmC)), List.forall_mem_cons.mpr ⟨.head _, fun p hp => .tail _ ?_⟩⟩
                rcases List.mem_append.mp hp with hp | hp
                · exact (List.mem_append.mp hp).elim (fun h => List.mem_append.mpr (.inl h)) fun h => List.mem_append.mpr (.inr (hmE p h))
                · exact List.mem_append.mpr (.inr (hmK p hp))
              · have ho := own_at hoff
                refine List.forall_mem_cons.mpr ⟨ho (L0 + 1 + 1, oN) (.head _), List.forall_mem_cons.mpr ⟨fun p hp => offm p (List.mem_append.mpr (.inr (hmO p hp))), fun q hq => ?_⟩⟩
                rcases List.mem_append.mp hq with hq | hq
                · exact (List.mem_append.mp hq).elim (fun h p hp => h2 q h p (hmO p hp)) fun h => ho q (.tail _ (.tail _ (List.mem_append.mpr (.inl h))))
                · exact ho q (.tail _ (.tail _ (List.mem_append.mpr (.inr hq))))
              · rw [choices_more hy]
                exact h1.mono fun p hp => List.mem_append.mpr (.inl hp)
              · refine List.forall_mem_cons.mpr ⟨Ne.symm (offm _ (List.mem_append.mpr (.inr hmC))), fun p hp => ?_⟩
                exact (List.mem_append.mp hp).elim (fun h => Ne.symm (h2 p h _ hmC)) fun h => hexN p (.tail _ h)
        · intro c u9 s9 hP hB9 F9 N9
          obtain ⟨Due, dv9, dn, oN, ex⟩ := c
          refine Classical.byContradiction fun hng9 => ?_
          obtain ⟨⟨vN, dN⟩, hrows, hexN⟩ := hP
          obtain ⟨hr0, r0, rest0, hr1⟩ := straight_head hdr
          refine hng9 ?_
          clear hng9
          dsimp only at dN hrows hexN F9 N9
          rw [List.take_of_length_le (by rw [hS1d.len_eq]; exact Nat.le_refl _)] at hrows
          have hpl0 : pl = rest0 := by rw [hpl, hr1]; rfl
          have hr0l : r0.length ≤ 2 := by
            rw [hr1] at hr0
            simp only [List.headD_cons, List.mem_cons, List.not_mem_nil, or_false] at hr0
            rcases hr0 with rfl | rfl | rfl <;> decide +kernel
          have hdU : dueU (straightF parts) = (choices pl).map fun row => r0 ++ Txt.join (Str.ofString "/") row := by
            unfold dueU dueRows
            rw [hpl, hr1]; rfl
          have hdl : dv9.length ≤ 32 := by
            have h1 := due_len hdr
            rw [hdU, List.length_map, hpn] at h1
            rw [hrows.len]; exact h1
          have hrsz := rows_sz hst
          refine Classical.byContradiction fun hng9 => ?_
          obtain ⟨t0, sv2, hsv⟩ : ∃ t0 sv2, sv1 = .str r0 t0 :: sv2 := by
            rw [hr1] at hS1
            cases hS1 with
            | cons y t h => exact ⟨t, _, rfl⟩
          refine hng9 ?_
          clear hng9
          have hsv0 : sv1[0]? = some (.str r0 t0) := by rw [hsv]; rfl
          have N10 : News G L0 s9.heap ((L0 + 1, oS) :: (L0 + 1 + 1, oN) :: (Due, listOf dv9.toArray dn) :: (S1, listOf sv1.toArray sk) :: (P1, listOf pv.toArray pn) :: (172, tabObj #[]) :: ex) := cb_drop N9 (by
            rw [hK]
            exact List.forall_mem_cons.mpr ⟨.tail _ (.tail _ (List.mem_append.mpr (.inr (.tail _ (.head _))))), List.forall_mem_cons.mpr ⟨.head _, List.forall_mem_cons.mpr ⟨.tail _ (.head _), List.forall_mem_cons.mpr ⟨.tail _ (.tail _ (List.mem_append.mpr (.inr (.tail _ (.tail _ (.head _)))))), List.forall_mem_cons.mpr ⟨.tail _ (.tail _ (List.mem_append.mpr (.inr (.tail _ (.tail _ (.tail _ (.head _))))))), List.forall_mem_cons.mpr ⟨.tail _ (.tail _ (List.mem_append.mpr (.inr (.tail _ (.tail _ (.tail _ (.tail _ (.head _)))))))), fun p hp => .tail _ (.tail _ (List.mem_append.mpr (.inl hp)))⟩⟩⟩⟩⟩⟩)
          clear N9
          (k_unmd)
          k_steps
          unfold Stuck
          refine CompSrc.ledger rfl F9 N10 (.tail _ (.tail _ (.head _))) (by rw [List.size_toArray, sizeLine_eq]; omega) ?_
          intro g9
          refine comp_map (fun i y => ∃ u, y = Value.str (r0 ++ Txt.join (Str.ofString "/") ((choices pl).getD i [])) u) (.inr ⟨_, .tail _ (.tail _ (.head _)), rfl, _, rfl⟩) ?_ ?_
          · intro i zs v I oI C oC D2 m2 h2 tk2 E2 hi hv hC hx2 F2 N2 off ne
            refine Classical.byContradiction fun hng9 => ?_
            obtain ⟨Dr, nr, vr, row, rfl, hrow, hmr, hir⟩ := hrows.at i v (by simpa using hv)
            refine hng9 ?_
            clear hng9
            have hxd : (choices pl).getD i [] = row := by simp [List.getD, hrow]
            have hro := hrsz.2 row (List.mem_of_getElem? hrow)
            (try k_unmd)
            (try k_fold)
            k_steps
            unfold Stuck
            have hmS := List.Mem.tail (I, oI) (List.Mem.tail (C, oC) (List.Mem.tail (D2, lst zs) (List.Mem.tail (L0 + 1, oS) (List.Mem.tail (L0 + 1 + 1, oN) (List.Mem.tail (Due, listOf dv9.toArray dn) (List.Mem.head (a := (S1, listOf sv1.toArray sk)) ((P1, listOf pv.toArray pn) :: (172, tabObj #[]) :: ex)))))))
            with_reducible refine item_vals 0 N2 hmS rfl (by decide) hsv0 ?_
            (k_unmd)
            k_steps
            unfold Stuck
            refine join_listW (News.isList N2 (.tail _ (.tail _ (.tail _ (.tail _ (.tail _ (.tail _ (.tail _ (.tail _ (.tail _ hmr)))))))))) (show StrsAre vr.toArray.toList row from hir) (by decide +kernel) (by have := sum_le2 (l := row) hro.2; omega) ?_
            intro tj kj
            (k_unmd)
            k_steps
            unfold Stuck
            refine KOpn.add ?_ ?_
            · have h1 := jlen (l := row) hro.2
              rw [tjoin_sl]
              have h2 : row.length ≤ 6 := by rw [hro.1]; exact hpll
              omega
            intro _ _ _
            k_steps
            all_goals first | assumption | (rw [hxd])
          · intro zs hzl hzr
            have hIz : StrsAre zs (dueU (straightF parts)) := by
              rw [hdU]
              refine strs_at (by rw [hzl, List.size_toArray, List.length_map, hrows.len]) fun i v hi => ?_
              obtain ⟨u, rfl⟩ := hzr i v hi
              have hlt : i < (choices pl).length := by have := (List.getElem?_eq_some_iff.mp hi).1; rw [hzl, List.size_toArray, hrows.len] at this; exact this
              refine ⟨_, u, ?_, rfl⟩
              rw [List.getElem?_map, List.getElem?_eq_getElem hlt]
              simp [List.getD, hlt]
            unfold FinE
            intro D3 h3 tk3 F3 N3 o3
            dsimp only
            (k_unmd)
            k_steps
            unfold Stuck
            refine sorted_N_str F3 N3 (News.isList N3 (.head _)) hIz (by rw [hzl, List.size_toArray]; omega) ?_
            intro h4 vs4 sd e4 F4 N4 hS4 hp4 hs4
            have hSD1 : @LT.lt Nat _ 172 (h3.objs.size + 1) := Nat.lt_succ_of_lt (Heap.lt_size (N3 (172, tabObj #[]) (by k_mem)).1)
            have hSD2 : @LT.lt Nat _ (L0 + 1 + 1) (h3.objs.size + 1) := Nat.lt_succ_of_lt (Heap.lt_size (N3 (L0 + 1 + 1, oN) (by k_mem)).1)
            have hSD3 : @LT.lt Nat _ (L0 + 1) (h3.objs.size + 1) := Nat.lt_succ_of_lt (Heap.lt_size (N3 (L0 + 1, oS) (by k_mem)).1)
            dsimp only at N4 ⊢
            generalize h3.objs.size + 1 = SD at hSD1 hSD2 hSD3 N4 ⊢
            k_steps
            unfold Stuck
            refine for_G (h₀ := G) rfl rfl ?_
            k_steps
            rename_i hq1 tkq1 PL hq2 lPL hq3 FP NP
            obtain ⟨K2, hK2⟩ : ∃ K2 : List (Addr × Obj), K2 = [(SD, listOf vs4.toArray e4), (L0 + 1, oS), (L0 + 1 + 1, oN), (S1, listOf sv1.toArray sk), (P1, listOf pv.toArray pn)] := ⟨_, rfl⟩
            have hK172 : ∀ p ∈ K2, p.1 ≠ 172 := by
              rw [hK2]
              exact List.forall_mem_cons.mpr ⟨Nat.ne_of_gt hSD1, List.forall_mem_cons.mpr ⟨Nat.ne_of_gt (Nat.lt_succ_of_lt l0), List.forall_mem_cons.mpr ⟨Nat.ne_of_gt (Nat.lt_succ_of_lt (Nat.lt_succ_of_lt l0)), List.forall_mem_cons.mpr ⟨Nat.ne_of_gt hlS.2.2.2.2.2.2.1, List.forall_mem_cons.mpr ⟨Nat.ne_of_gt l2.2.2.2, fun _ h => nomatch h⟩⟩⟩⟩⟩
            have hKt : ∀ p ∈ K2, NoTxt p.2 := by
              rw [hK2]
              exact List.forall_mem_cons.mpr ⟨no_list, List.forall_mem_cons.mpr ⟨no_cell dS, List.forall_mem_cons.mpr ⟨no_cell dN, List.forall_mem_cons.mpr ⟨no_list, List.forall_mem_cons.mpr ⟨no_list, fun _ h => nomatch h⟩⟩⟩⟩⟩
            have hKP : (P1, listOf pv.toArray pn) ∈ K2 := by rw [hK2]; exact .tail _ (.tail _ (.tail _ (.tail _ (.head _))))
            have NP2 : News G L0 hq3 ((172, tabObj #[]) :: (PL, listOf [Value.str (Str.ofString ".") _].toArray 0) :: ([] ++ K2)) := cb_drop NP (by
              rw [hK2]
              exact List.forall_mem_cons.mpr ⟨.tail _ (.tail _ (.tail _ (.tail _ (.tail _ (.tail _ (.tail _ (.tail _ (.head _)))))))), List.forall_mem_cons.mpr ⟨.head _, List.forall_mem_cons.mpr ⟨.tail _ (.head _), List.forall_mem_cons.mpr ⟨.tail _ (.tail _ (.tail _ (.head _))), List.forall_mem_cons.mpr ⟨.tail _ (.tail _ (.tail _ (.tail _ (.head _)))), List.forall_mem_cons.mpr ⟨.tail _ (.tail _ (.tail _ (.tail _ (.tail _ (.tail _ (.head _)))))), List.forall_mem_cons.mpr ⟨.tail _ (.tail _ (.tail _ (.tail _ (.tail _ (.tail _ (.tail _ (.head _))))))), fun _ h => nomatch h⟩⟩⟩⟩⟩⟩⟩)
            clear NP N4 N3 F3
            refine for_fr (σ := PlS) (o := sh1.os) (fun c => (172, tabObj c.tb) :: (c.PL, listOf c.pv.toArray c.n) :: (c.ex ++ K2)) (fun c => [(Str.ofString "places", .ref c.PL), (Str.ofString "due", .ref SD), (Str.ofString "parts", .ref P1)])
              (fun i c => StrsAre c.pv (placesF (parts.take i)) ∧ TabOk posL lamQ c.ex c.tb ∧ ∀ p ∈ (c.PL, listOf c.pv.toArray c.n) :: c.ex, p.1 ≠ 172) ⟨PL, _, 0, #[], []⟩ rfl
              (fun i c _ => .tail _ (.tail _ (List.mem_append.mpr (.inr hKP)))) FP NP2 hB9 (all3 rfl rfl rfl)
              ⟨.cons _ _ .nil, ⟨True.intro, .inl rfl⟩, List.forall_mem_cons.mpr ⟨Nat.ne_of_gt lPL.2.2.2.2.2.2.2.1, fun _ h => nomatch h⟩⟩ ?_ ?_
            · intro c i v u10 s10 own hv hoff hnt hP hB10 F10 N10 R10 hR10
              obtain ⟨PL1, pv1, pn1, tb1, ex1⟩ := c
              refine Classical.byContradiction fun hng9 => ?_
              obtain ⟨hpv1, hT1, hP1⟩ := hP
              obtain ⟨y, ty, rfl, hy⟩ := StrsAre.item hl i v hv
              refine hng9 ?_
              clear hng9
              dsimp only at hpv1 hT1 hP1 hoff F10 N10 ⊢
              have hyd : Dr y := hdr y (List.mem_of_getElem? hy)
              have hyl : y.length ≤ 8 := hsz y (List.mem_of_getElem? hy)
              obtain ⟨W1, hW1⟩ : ∃ W1, W1 = K2 ++ own := ⟨_, rfl⟩
              have hW172 : ∀ q ∈ (PL1, listOf pv1.toArray pn1) :: (ex1 ++ W1), q.1 ≠ 172 := by
                rw [hW1]
                refine List.forall_mem_cons.mpr ⟨hP1 _ (.head _), fun p hp => ?_⟩
                rcases List.mem_append.mp hp with hp | hp
                · exact hP1 p (.tail _ hp)
                rcases List.mem_append.mp hp with hp | hp
                · exact hK172 p hp
                · exact own_at hoff (172, tabObj tb1) (.head _) p hp
              have hWt : ∀ q ∈ W1, NoTxt q.2 := by
                rw [hW1]
                exact fun q hq => (List.mem_append.mp hq).elim (hKt q) (hnt q)
              have N11 : News G L0 s10.heap ((172, tabObj tb1) :: (PL1, listOf pv1.toArray pn1) :: (ex1 ++ W1)) := by
                rw [hW1, ← List.append_assoc]
                exact N10
              clear N10
              (k_unmd)
              (try k_fold)
              k_steps
              unfold Stuck
              refine cut_at (σ := PlS) (o := sh1.os) F10 (fun c => (172, tabObj c.tb) :: (c.PL, listOf c.pv.toArray c.n) :: (PL1, listOf pv1.toArray pn1) :: (c.ex ++ W1)) (fun c => [(Str.ofString "steps", .ref c.PL)]) []
                (fun c => StrsAre c.pv (stepsOf y) ∧ TabOk posL lamQ c.ex c.tb ∧ ∀ q ∈ c.ex, q.1 ≠ 172 ∧ ∀ p ∈ own, p.1 ≠ q.1) ?_ ?_
              · intro Rc hC9
                have hgo := goOn
                walk_at "exec Assign"
                k_steps
                unfold Stuck
                k_dflt (refine' @Does.use _ _ _ _ _ _ _ _ _ _ _ _ _ _ _ _ _ _ _ _ _ _ _ _ _ _ _ _ _ _ ?k1 ?k2 ?k3 ?k4 ?k5 ?k6 ?k7 ?k8 ?k9 ?_)
                (case k4 => k_asm)
                (case k9 => exact meant_does _ _ _ _ _ y ty)
                walk_at "Muse4"
                intro n' r' h8 tk8 hR F8 N8
                refine Classical.byContradiction fun hng9 => ?_
                rcases hR with ⟨hm8, rfl, rfl⟩ | ⟨ns8, D8, vs8, k8, hm8, rfl, rfl, hS8, lD8⟩
                · refine hng9 ?_
                  clear hng9
                  (k_unmd)
                  k_steps
                  rename_i lst9 hA9 lA9 hb9 FB NB
                  refine hC9 _ (meet (⟨lst9, [Value.str y ty], 0, tb1, ex1⟩ : PlS) FB NB (List.forall_mem_cons.mpr ⟨.tail _ (.head _), List.forall_mem_cons.mpr ⟨.head _, fun p hp => .tail _ (.tail _ hp)⟩⟩)
                    (List.forall_mem_cons.mpr ⟨rfl, fun _ h => nomatch h⟩) (fun z h2 _ => if_neg (h2 _ (.head _))) ⟨?_, hT1, fun q hq => ⟨hP1 q (.tail _ hq), own_at hoff q (.tail _ (.tail _ (List.mem_append.mpr (.inl hq))))⟩⟩ hB10)
                  unfold stepsOf
                  rw [hm8]
                  exact .cons _ _ .nil
                · refine hng9 ?_
                  clear hng9
                  (k_unmd)
                  k_steps
                  unfold Stuck
                  refine Classical.byContradiction fun hng9 => ?_
                  obtain ⟨fin, htr, hfl, htk⟩ := taken_names hm8
                  refine hng9 ?_
                  clear hng9
                  have N8' : News G L0 h8 ((172, tabObj tb1) :: (PL1, listOf pv1.toArray pn1) :: (ex1 ++ W1)) := fun p hp => N8 p (.tail _ hp)
                  k_dflt (refine' @DoesG.use _ _ _ _ _ _ _ _ _ _ _ _ _ _ _ _ _ _ _ _ _ _ _ _ _ _ _ _ _ _ _ ?k1 ?k2 ?k3 ?k4 ?k5 ?k6 ?k7 ?k8 ?k9 ?_ ?k10)
                  (case k9 => exact taken_does _ _ _ _ ((PL1, listOf pv1.toArray pn1) :: (ex1 ++ W1)) tb1 y ty (Nat.le_trans hyl (by decide)) hW172 fin htr hfl (tab_sub hT1 fun p hp => .tail _ (List.mem_append.mpr (.inl hp))))
                  (case k4 => exact N8')
                  (case k10 => exact hB10)
                  walk_at "Muse4"
                  intro n' r' s11 hR hB11 F11 N11'
                  refine Classical.byContradiction fun hng9 => ?_
                  obtain ⟨D9, vs9, k9, tb9, ex9, rfl, rfl, hS9, hT9', hex9, hD9, hrD⟩ := hR
                  rw [htk] at hS9
                  obtain ⟨ex2, hex2, hT2⟩ := tab_off N11' (tab_only (l' := ex9 ++ ex1) hT9' (by
                    intro p hp
                    rcases List.mem_append.mp hp with h | hp
                    · exact .inl (List.mem_append.mpr (.inl h))
                    rcases List.mem_cons.mp hp with rfl | hp
                    · exact .inr no_list
                    rcases List.mem_append.mp hp with h | h
                    · exact .inl (List.mem_append.mpr (.inr h))
                    · exact .inr (hWt p h))) (fun p hp => .tail _ (.tail _ (List.mem_append.mpr ((List.mem_append.mp hp).imp id fun h => .tail _ (List.mem_append.mpr (.inl h)))))) own (fun p hp => .tail _ (.tail _ (List.mem_append.mpr (.inr (.tail _ (List.mem_append.mpr (.inr (by rw [hW1]; exact List.mem_append.mpr (.inr hp))))))))) hnt
                  refine hng9 ?_
                  clear hng9 hT9'
                  (k_unmd)
                  k_steps
                  rename_i hb9 FB NB
                  refine hC9 _ (meet (⟨D9, vs9, k9, tb9, ex2⟩ : PlS) FB NB ?_ (List.forall_mem_cons.mpr ⟨rfl, fun _ h => nomatch h⟩) (fun z h2 _ => if_neg (h2 _ (.head _))) ⟨?_, hT2, fun q hq => ⟨?_, (hex2 q hq).2⟩⟩ hB11)
                  · refine List.forall_mem_cons.mpr ⟨.tail _ (.head _), List.forall_mem_cons.mpr ⟨.head _, List.forall_mem_cons.mpr ⟨.tail _ (.tail _ (List.mem_append.mpr (.inr (.head _)))), fun p hp => ?_⟩⟩⟩
                    rcases List.mem_append.mp hp with hp | hp
                    · rcases List.mem_append.mp (hex2 p hp).1 with h | h
                      · exact .tail _ (.tail _ (List.mem_append.mpr (.inl h)))
                      · exact .tail _ (.tail _ (List.mem_append.mpr (.inr (.tail _ (List.mem_append.mpr (.inl h))))))
                    · exact .tail _ (.tail _ (List.mem_append.mpr (.inr (.tail _ (List.mem_append.mpr (.inr hp))))))
                  · unfold stepsOf
                    rw [hm8]
                    exact hS9
                  · rcases List.mem_append.mp (hex2 q hq).1 with h | h
                    · exact (hex9 q h).1
                    · exact hP1 q (.tail _ h)
              · intro c u11 s11 hs11 hP11 F11 N11'
                obtain ⟨N1, nv, nn, tb2, ex2⟩ := c
                refine Classical.byContradiction fun hng9 => ?_
                obtain ⟨hnv, hT2, hex2⟩ := hP11
                obtain ⟨-, hB11⟩ := hs11
                refine hng9 ?_
                clear hng9
                dsimp only at hnv hT2 hex2 F11 N11'
                refine (fr_forget F11 [(Str.ofString "steps", .ref N1), (Str.ofString "places", .ref PL1), (Str.ofString "due", .ref SD), (Str.ofString "parts", .ref P1)] (all4 rfl rfl rfl rfl)).elim fun uz11 FQ => ?_
                clear F11
                have F11 := FQ
                clear FQ
                change Fr G L0 _ _ at F11
                change News G L0 _ _ at N11'
                (k_unmd)
                k_steps
                unfold Stuck
                refine for_G (h₀ := G) rfl rfl ?_
                k_steps
                rename_i FO hq4 lFO hq5 FF NF
                obtain ⟨W2, hW2⟩ : ∃ W2, W2 = (172, tabObj tb2) :: (N1, listOf nv.toArray nn) :: (PL1, listOf pv1.toArray pn1) :: (ex2 ++ W1) := ⟨_, rfl⟩
                have hFO : ∀ p ∈ W2, p.1 ≠ FO := by
                  rw [hW2]
                  exact List.forall_mem_cons.mpr ⟨Nat.ne_of_lt lFO.1, List.forall_mem_cons.mpr ⟨Nat.ne_of_lt lFO.2.1, List.forall_mem_cons.mpr ⟨Nat.ne_of_lt lFO.2.2.1, allLt_ne lFO.2.2.2⟩⟩⟩
                have hmPL : (PL1, listOf pv1.toArray pn1) ∈ W2 := by rw [hW2]; exact .tail _ (.tail _ (.head _))
                have hmN : (N1, listOf nv.toArray nn) ∈ W2 := by rw [hW2]; exact .tail _ (.head _)
                rw [← hW2] at NF
                have hti : (parts.take i).length ≤ 5 := by rw [← hpn]; exact List.length_take_le' _ _
                have hdi : ∀ p ∈ parts.take i, Dr p := fun p hp => hdr p (List.mem_of_mem_take hp)
                have hplz := places_sz hdi
                have hpll2 := places_len hdi
                have hstz := stepsOf_sz hyd
                have hstl := stepsOf_len hyd
                have hpl32 : (placesF (parts.take i)).length ≤ 32 := Nat.le_trans hpll2 (Nat.pow_le_pow_right (by decide) hti)
                refine for_fr (σ := PaS) (o := sh1.os) (fun c => (FO, listOf c.vs.toArray c.n) :: W2) (fun _ => [(Str.ofString "found", .ref FO), (Str.ofString "steps", .ref N1), (Str.ofString "due", .ref SD), (Str.ofString "parts", .ref P1)]) (fun j c => StrsAre c.vs (((placesF (parts.take i)).take j).foldl (plTurn (stepsOf y)) [])) ⟨[], 0⟩ rfl (fun _ c _ => .tail _ hmPL) FF NF hB11 (all4 rfl rfl rfl rfl) .nil ?_ ?_
                · intro c j v u12 s12 own2 hv2 hoff2 hnt2 hP12 hB12 F12 N12 R12 hR12
                  obtain ⟨fv, fn⟩ := c
                  refine Classical.byContradiction fun hng9 => ?_
                  obtain ⟨z, tz, rfl, hz⟩ := StrsAre.item hpv1 j v hv2
                  refine hng9 ?_
                  clear hng9
                  dsimp only at hP12 hoff2 F12 N12
                  change Fr G L0 _ _ at F12
                  change News G L0 _ _ at N12
                  have hzl := hplz z (List.mem_of_getElem? hz)
                  have hjl : (((placesF (parts.take i)).take j).foldl (plTurn (stepsOf y)) []).length ≤ 64 := by
                    have h1 := turns_len (steps := stepsOf y) ((placesF (parts.take i)).take j) []
                    have h2 := Nat.mul_le_mul (Nat.le_trans (List.length_take_le' j (placesF (parts.take i))) hpl32) hstl
                    rw [List.length_nil] at h1
                    omega
                  generalize hfj : ((placesF (parts.take i)).take j).foldl (plTurn (stepsOf y)) [] = fj at hP12 hjl
                  (k_unmd)
                  (try k_fold)
                  k_steps
                  unfold Stuck
                  refine for_G (h₀ := G) rfl rfl ?_
                  k_steps
                  refine for_fr (σ := PaS) (o := sh1.os) (fun c => (FO, listOf c.vs.toArray c.n) :: (W2 ++ own2)) (fun _ => [(Str.ofString "place", .str z tz), (Str.ofString "found", .ref FO), (Str.ofString "steps", .ref N1), (Str.ofString "due", .ref SD), (Str.ofString "parts", .ref P1)]) (fun k c => StrsAre c.vs (((stepsOf y).take k).foldl (fun f st => addNew f (npath (pjStep z st))) fj)) ⟨fv, fn⟩ rfl (fun _ c _ => .tail _ (List.mem_append.mpr (.inl hmN))) F12 N12 hB12 (all5 rfl rfl rfl rfl rfl) hP12 ?_ ?_
                  · intro c k v u13 s13 own3 hv3 hoff3 hnt3 hP13 hB13 F13 N13 R13 hR13
                    obtain ⟨gv, gn⟩ := c
                    refine Classical.byContradiction fun hng9 => ?_
                    obtain ⟨st, tst, rfl, hst9⟩ := StrsAre.item hnv k v hv3
                    refine hng9 ?_
                    clear hng9
                    dsimp only at hP13 hoff3 F13 N13
                    change Fr G L0 _ _ at F13
                    change News G L0 _ _ at N13
                    simp only [List.cons_append] at N13
                    have hsl := hstz st (List.mem_of_getElem? hst9)
                    (k_unmd)
                    (try k_fold)
                    k_steps
                    unfold Stuck
                    k_dflt (refine' @Does.use _ _ _ _ _ _ _ _ _ _ _ _ _ _ _ _ _ _ _ _ _ _ _ _ _ _ _ _ _ _ ?k1 ?k2 ?k3 ?k4 ?k5 ?k6 ?k7 ?k8 ?k9 ?_)
                    (case k9 => exact join_does _ _ _ _ _ z tz [Value.str st tst] [st] (.cons _ _ .nil) (by simp only [List.map_cons, List.map_nil, List.sum_cons, List.sum_nil, List.length_singleton]; omega))
                    walk_at "Muse"
                    intro n1 r1 h14 tk14 hR F14 N14
                    refine Classical.byContradiction fun hng9 => ?_
                    obtain ⟨rfl, ut, rfl⟩ := hR
                    refine hng9 ?_
                    clear hng9
                    have hjz : (pjStep z st).length ≤ 100000 := by have := pjStep_len z st; omega
                    (k_unmd)
                    k_steps
                    unfold Stuck
                    k_dflt (refine' @Does.use _ _ _ _ _ _ _ _ _ _ _ _ _ _ _ _ _ _ _ _ _ _ _ _ _ _ _ _ _ _ ?k1 ?k2 ?k3 ?k4 ?k5 ?k6 ?k7 ?k8 ?k9 ?_)
                    (case k9 => exact normpath_does _ _ _ _ _ (pjStep z st) ut hjz)
                    walk_at "Muse"
                    intro n1 r1 h15 tk15 hR F15 N15
                    refine Classical.byContradiction fun hng9 => ?_
                    obtain ⟨rfl, ut', rfl⟩ := hR
                    refine hng9 ?_
                    clear hng9
                    (k_unmd)
                    k_steps
                    unfold Stuck
                    rename_i h16 F16 N16
                    refine notin_list_strs (lst_at N16 (.head _)) hP13 ?_
                    have hallF : ∀ p ∈ W2 ++ own2 ++ own3, p.1 ≠ FO := fun p hp => (List.mem_append.mp hp).elim (fun h => (List.mem_append.mp h).elim (hFO p) fun h => own_at hoff2 (FO, listOf fv.toArray fn) (.head _) p h) fun h => own_at hoff3 (FO, listOf gv.toArray gn) (.head _) p h
                    have hgvl : gv.length ≤ 1000000 := by
                      have h1 := turn_len (pl := z) ((stepsOf y).take k) fj
                      have h2 := List.length_take_le' k (stepsOf y)
                      rw [hP13.len_eq]
                      unfold plTurn at h1
                      omega
                    (k_unmd)
                    k_steps
                    · refine hR13 _ _ (for_frE (⟨gv, gn⟩ : PaS) hB13 F16 N16 (List.forall_mem_cons.mpr ⟨.head _, fun p hp => .tail _ (List.mem_append.mpr (.inl hp))⟩) (fun p hp => .tail _ (List.mem_append.mpr (.inr hp))) hoff3 (all5 rfl rfl rfl rfl rfl) ?_)
                      · rw [take_more hst9, List.foldl_append]
                        show StrsAre gv (addNew _ _)
                        rw [add_old (by assumption)]
                        exact hP13
                    · rename_i ha9 h17 F17 N17
                      refine hR13 _ _ (for_frE (⟨gv ++ [Value.str (npath (pjStep z st)) ut'], gn + 1⟩ : PaS) hB13 F17 N17 (List.forall_mem_cons.mpr ⟨.head _, fun p hp => .tail _ (List.mem_append.mpr (.inl hp))⟩) (fun p hp => .tail _ (List.mem_append.mpr (.inr hp))) hoff3 (all5 rfl rfl rfl rfl rfl) ?_)
                      · rw [take_more hst9, List.foldl_append]
                        show StrsAre (gv ++ _) (addNew _ _)
                        rw [add_new ha9]
                        exact strs_snoc hP13
                  · intro c u13 s13 hP13 hB13 F13 N13
                    obtain ⟨gv, gn⟩ := c
                    dsimp only at hP13 F13 N13
                    change Fr G L0 _ _ at F13
                    change News G L0 _ _ at N13
                    k_steps
                    refine hR12 _ _ (for_frE (⟨gv, gn⟩ : PaS) hB13 F13 N13 (List.forall_mem_cons.mpr ⟨.head _, fun p hp => .tail _ (List.mem_append.mpr (.inl hp))⟩) (fun p hp => .tail _ (List.mem_append.mpr (.inr hp))) hoff2 (all4 rfl rfl rfl rfl) ?_)
                    · rw [List.take_of_length_le (by rw [hnv.len_eq]; exact Nat.le_refl _)] at hP13
                      rw [take_more hz, List.foldl_append, hfj]
                      exact hP13
                · intro c u12 s12 hP12 hB12 F12 N12
                  obtain ⟨gv, gn⟩ := c
                  dsimp only at hP12 F12 N12
                  change Fr G L0 _ _ at F12
                  change News G L0 _ _ at N12
                  (k_unmd)
                  k_steps
                  rename_i h17 F17 N17
                  refine hR10 _ _ (for_frE (⟨FO, gv, gn, tb2, ex2⟩ : PlS) hB12 F17 N17 ?_ ?_ (own_mk ?_) (all3 rfl rfl rfl) ⟨?_, hT2, ?_⟩)
                  · rw [hW2, hW1]
                    refine List.forall_mem_cons.mpr ⟨.tail _ (.head _), List.forall_mem_cons.mpr ⟨.head _, fun p hp => .tail _ (.tail _ (.tail _ (.tail _ ?_)))⟩⟩
                    rcases List.mem_append.mp hp with hp | hp
                    · exact List.mem_append.mpr (.inl hp)
                    · exact List.mem_append.mpr (.inr (List.mem_append.mpr (.inl hp)))
                  · rw [hW2, hW1]
                    exact fun p hp => .tail _ (.tail _ (.tail _ (.tail _ (List.mem_append.mpr (.inr (List.mem_append.mpr (.inr hp)))))))
                  · have hOW : ∀ p ∈ own, p ∈ W2 := by
                      rw [hW2, hW1]
                      exact fun p hp => .tail _ (.tail _ (.tail _ (List.mem_append.mpr (.inr (List.mem_append.mpr (.inr hp))))))
                    refine List.forall_mem_cons.mpr ⟨own_at hoff (172, tabObj tb1) (.head _), List.forall_mem_cons.mpr ⟨fun p hp => hFO p (hOW p hp), fun q hq => ?_⟩⟩
                    rcases List.mem_append.mp hq with hq | hq
                    · exact (hex2 q hq).2
                    · exact own_at hoff q (.tail _ (.tail _ (List.mem_append.mpr (.inr hq))))
                  · rw [List.take_of_length_le (by rw [hpv1.len_eq]; exact Nat.le_refl _)] at hP12
                    rw [take_more hy]
                    unfold placesF
                    rw [List.foldl_append]
                    exact hP12
                  · exact List.forall_mem_cons.mpr ⟨Ne.symm (hFO (172, tabObj tb2) (by rw [hW2]; exact .head _)), fun p hp => (hex2 p hp).1⟩
            · intro c u10 s10 hP10 hB10 F10 N10
              obtain ⟨PL1, pv1, pn1, tb1, ex1⟩ := c
              refine Classical.byContradiction fun hng9 => ?_
              obtain ⟨hpv1, hT1, hP1⟩ := hP10
              refine hng9 ?_
              clear hng9
              rw [List.take_of_length_le (by rw [hl.len_eq]; exact Nat.le_refl _)] at hpv1
              dsimp only at hpv1 hT1 hP1 F10 N10
              change Fr G L0 _ _ at F10
              change News G L0 _ _ at N10
              have hpl32 : pv1.length ≤ 32 := by
                have h1 := places_len hdr
                rw [hpn] at h1
                rw [hpv1.len_eq]; exact h1
              have N11 : News G L0 s10.heap ((PL1, listOf pv1.toArray pn1) :: (SD, listOf vs4.toArray e4) :: (P1, listOf pv.toArray pn) :: (172, tabObj tb1) :: (L0 + 1, oS) :: (L0 + 1 + 1, oN) :: (S1, listOf sv1.toArray sk) :: ex1) := cb_drop N10 (by
                rw [hK2]
                exact List.forall_mem_cons.mpr ⟨.tail _ (.head _), List.forall_mem_cons.mpr ⟨.tail _ (.tail _ (List.mem_append.mpr (.inr (.head _)))), List.forall_mem_cons.mpr ⟨.tail _ (.tail _ (List.mem_append.mpr (.inr (.tail _ (.tail _ (.tail _ (.tail _ (.head _)))))))), List.forall_mem_cons.mpr ⟨.head _, List.forall_mem_cons.mpr ⟨.tail _ (.tail _ (List.mem_append.mpr (.inr (.tail _ (.head _))))), List.forall_mem_cons.mpr ⟨.tail _ (.tail _ (List.mem_append.mpr (.inr (.tail _ (.tail _ (.head _)))))), List.forall_mem_cons.mpr ⟨.tail _ (.tail _ (List.mem_append.mpr (.inr (.tail _ (.tail _ (.tail _ (.head _))))))), fun p hp => .tail _ (.tail _ (List.mem_append.mpr (.inl hp)))⟩⟩⟩⟩⟩⟩⟩)
              clear N10
              (k_unmd)
              (try k_fold)
              k_steps
              unfold Stuck
              refine cutK (σ := Unit) F10 (fun _ => (PL1, listOf pv1.toArray pn1) :: (SD, listOf vs4.toArray e4) :: (P1, listOf pv.toArray pn) :: (172, tabObj tb1) :: (L0 + 1, oS) :: (L0 + 1 + 1, oN) :: (S1, listOf sv1.toArray sk) :: ex1) (fun _ => []) [] (fun _ => True) ?_ ?_
              · intro Rc hC9
                have hgo := goOn
                walk_at "exec If"
                k_steps
                unfold Stuck
                refine sorted_N_str F10 N11 (News.isList N11 (.head _)) hpv1 (by omega) ?_
                intro h5 vs5 sp e5 F5' N5' hS5 hp5 hs5
                have hpl := places_law hdr hp5 hs5 hp4 hs4
                generalize s10.heap.objs.size + 1 = SP at N5' ⊢
                k_steps
                unfold Stuck
                refine LCt.CompSrcT.ledger rfl F5' N5' (.tail _ (.tail _ (.tail _ (.head _)))) (by rw [List.size_toArray, hl.len_eq, sizeLine_eq]; omega) ?_
                intro g9
                rw [List.size_toArray]
                refine comp_test pv (fun i => meantF (parts.getD i (Str.ofString "")) == some []) (fun i v h => by simpa using h) (.inr ⟨_, .tail _ (.tail _ (.tail _ (.head _))), rfl, _, rfl⟩) ?_ ?_ ?_
                · intro i zs v I oI C oC D2 m2 h2 tk2 E2 hv hC hx2 F2 N2 off ne
                  refine Classical.byContradiction fun hng9 => ?_
                  obtain ⟨y, ty, rfl, hy⟩ := StrsAre.item hl i v hv
                  refine hng9 ?_
                  clear hng9
                  have hyd : parts.getD i (Str.ofString "") = y := by simp [List.getD, hy]
                  rw [hyd]
                  (try k_unmd)
                  (try k_fold)
                  k_steps
                  unfold Stuck
                  k_dflt (refine' @Does.use _ _ _ _ _ _ _ _ _ _ _ _ _ _ _ _ _ _ _ _ _ _ _ _ _ _ _ _ _ _ ?k1 ?k2 ?k3 ?k4 ?k5 ?k6 ?k7 ?k8 ?k9 ?_)
                  (case k4 => k_asm)
                  (case k9 => exact meant_does _ _ _ _ _ y ty)
                  walk_at "Muse4"
                  intro n' r' h8 tk8 hR F8 N8
                  refine Classical.byContradiction fun hng9 => ?_
                  rcases hR with ⟨hm8, rfl, rfl⟩ | ⟨ns8, D8, vs8, k8, hm8, rfl, rfl, hS8, lD8⟩
                  · refine hng9 ?_
                    clear hng9
                    (k_unmd)
                    k_steps
                    unfold Stuck
                    rename News G L0 _ _ => NZ
                    refine eq_none_list (vs := []) NZ (.head _) law_cl ?_
                    k_steps
                    all_goals first | assumption | (rw [hm8]; rfl) | (exact fun p hp => NZ p (.tail _ hp))
                  · refine hng9 ?_
                    clear hng9
                    (k_unmd)
                    k_steps
                    unfold Stuck
                    rename News G L0 _ _ => NZ
                    refine eq_nil (vs := vs8) NZ (.tail _ (.head _)) (.head _) law_cl ?_
                    k_steps
                    all_goals first | assumption | (rw [hm8]; exact emp_eq hS8) | (exact fun p hp => NZ p (.tail _ (.tail _ hp)))
                · intro i zs v I oI C oC D2 m2 h2 tk2 E2 hv hC hx2 F2 N2 off ne
                  (try k_unmd)
                  (try k_fold)
                  k_steps
                  all_goals first | assumption | walk_at "Mdrop"
                · have hF := filt_strs (fun p => meantF p == some []) (fun i => meantF (parts.getD i (Str.ofString "")) == some []) hl 0 (fun i y hy => by simp [List.getD, hy])
                  generalize ((pv.zipIdx.filter _).map (·.1)) = fv at hF ⊢
                  unfold FinE
                  intro D6 h6 tk6 F6 N6 o6
                  dsimp only
                  (k_unmd)
                  k_steps
                  unfold Stuck
                  rename News G L0 _ _ => NZ
                  refine ne_nil (vs := fv) NZ (.tail _ (.head _)) (.head _) law_cl ?_
                  have hbad : (!fv.isEmpty) = bad parts := by rw [bad_filter, emp_same hF]
                  rw [hbad]
                  generalize bad parts = bb at hpl ⊢
                  cases bb with
                  | false =>
                    have hpl' : sp = sd := hpl
                    k_steps
                    unfold Stuck
                    refine ne_strs NZ (.tail _ (.tail _ (.head _))) hS5 (.tail _ (.tail _ (.tail _ (.tail _ (.head _))))) hS4 law_cl ?_
                    have eN : (!(sp == sd)) = false := by rw [hpl']; simp
                    rw [eN]
                    (k_unmd)
                    k_steps
                    refine hC9 _ (meetK () (by assumption) NZ (fun p hp => .tail _ (.tail _ (.tail _ hp))) (fun _ h => nomatch h) (fun _ _ _ => rfl) trivial)
                  | true =>
                    have hpl' : sp = [] := hpl
                    k_steps
                    unfold Stuck
                    rename News G L0 _ _ => NY
                    refine ne_strs (us := []) (zs := []) NY (.tail _ (.tail _ (.tail _ (.head _)))) hS5 (.head _) .nil law_cl ?_
                    have eN : (!(sp == [])) = false := by rw [hpl']; rfl
                    rw [eN]
                    (k_unmd)
                    k_steps
                    refine hC9 _ (meetK () (by assumption) NY (fun p hp => .tail _ (.tail _ (.tail _ (.tail _ hp)))) (fun _ h => nomatch h) (fun _ _ _ => rfl) trivial)
              · intro _ u11 h11 tk11 _ F11 N11'
                change Fr G L0 _ _ at F11
                change News G L0 _ _ at N11'
                clear N11
                refine (fr_forget F11 [(Str.ofString "due", .ref SD), (Str.ofString "parts", .ref P1)] (all2 rfl rfl)).elim fun uz12 FQ => ?_
                clear F11
                have F11 := FQ
                clear FQ
                refine Classical.byContradiction fun hng9 => ?_
                obtain ⟨p0, prest, rfl⟩ : ∃ p0 prest, parts = p0 :: prest := by
                  cases parts with
                  | nil => cases hpn
                  | cons a l => exact ⟨a, l, rfl⟩
                obtain ⟨tp0, wv, hpv, hwv⟩ : ∃ tp0 wv, pv = .str p0 tp0 :: wv ∧ StrsAre wv prest := by
                  cases hl with
                  | cons a t h => exact ⟨t, _, rfl, h⟩
                refine hng9 ?_
                clear hng9
                have hwh : prest.foldl pjStep p0 = (p0 :: prest).foldl pjStep (Str.ofString "") := by rw [List.foldl_cons, pj_nil]
                have hsum := sum_le2 (l := prest) (B := 8) fun p hp => hsz p (.tail _ hp)
                have hp0 := hsz p0 (.head _)
                have hprl : prest.length = 4 := by simpa using hpn
                have hwl : (prest.foldl pjStep p0).length ≤ 100 := by have := pj_len prest p0; omega
                (k_unmd)
                (try k_fold)
                k_steps
                k_dflt (refine' star_seq ?u1 ?u2 ?u3 ?u4 ?u5 ?u6 ?u7 ?u8 ?_)
                (case u1 => k_asm)
                (case u2 => k_asm)
                (case u3 => exact List.Mem.tail _ (List.Mem.tail _ (List.Mem.head _)))
                (case u4 => exact rfl)
                (case u5 => exact rfl)
                (case u6 => exact .inl rfl)
                (case u7 => exact hpv)
                (case u8 => rw [List.size_toArray, sizeLine_eq, hl.len_eq, hpn]; omega)
                intro hW FW NW
                dsimp only [List.nil_append, List.cons_append]
                k_steps
                unfold Stuck
                k_dflt (refine' @Does.use _ _ _ _ _ _ _ _ _ _ _ _ _ _ _ _ _ _ _ _ _ _ _ _ _ _ _ _ _ _ ?k1 ?k2 ?k3 ?k4 ?k5 ?k6 ?k7 ?k8 ?k9 ?_)
                (case k9 => exact join_does _ _ _ _ _ p0 tp0 wv prest hwv (by omega))
                walk_at "Muse"
                intro n1 r1 h12 tk12 hR F12 N12
                refine Classical.byContradiction fun hng9 => ?_
                obtain ⟨rfl, ut, rfl⟩ := hR
                refine hng9 ?_
                clear hng9
                (k_unmd)
                k_steps
                unfold Stuck
                k_dflt (refine' @Does.use _ _ _ _ _ _ _ _ _ _ _ _ _ _ _ _ _ _ _ _ _ _ _ _ _ _ _ _ _ _ ?k1 ?k2 ?k3 ?k4 ?k5 ?k6 ?k7 ?k8 ?k9 ?_)
                (case k9 => exact normpath_does _ _ _ _ _ _ ut (Nat.le_trans hwl (by decide)))
                walk_at "Muse"
                intro n1 r1 h13 tk13 hR F13 N13
                refine Classical.byContradiction fun hng9 => ?_
                obtain ⟨rfl, ut', rfl⟩ := hR
                refine hng9 ?_
                clear hng9
                have hnp : npath (prest.foldl pjStep p0) = render ((p0 :: prest).foldl ptStep pt0) := by rw [hwh]; exact whole_norm hkd
                rw [hnp]
                have htl : TailsOf (render ((p0 :: prest).foldl ptStep pt0)) (straightF (p0 :: prest)) := by rw [straight_law hkd]; exact tails_to (good_fold good_0 hkd)
                have hrl := whole_len hdr
                have hstl := straight_len hdr
                (k_unmd)
                k_steps
                unfold Stuck
                k_dflt (refine' @Does.use _ _ _ _ _ _ _ _ _ _ _ _ _ _ _ _ _ _ _ _ _ _ _ _ _ _ _ _ _ _ ?k1 ?k2 ?k3 ?k4 ?k5 ?k6 ?k7 ?k8 ?k9 ?_)
                (case k9 => exact tails_does _ _ _ _ _ _ ut' _ htl (by omega) (by omega))
                walk_at "Muse"
                intro n1 r1 h14 tk14 hR F14 N14
                refine Classical.byContradiction fun hng9 => ?_
                obtain ⟨DT, tv, nT, rfl, rfl, hT, hTlt⟩ := hR
                refine hng9 ?_
                clear hng9
                (k_unmd)
                k_steps
                unfold Stuck
                rename News G L0 _ _ => NT
                k_dflt (refine' @Does.use _ _ _ _ _ _ _ _ _ _ _ _ _ _ _ _ _ _ _ _ _ _ _ _ _ _ _ _ _ _ ?k1 ?k2 ?k3 ?k4 ?k5 ?k6 ?k7 ?k8 ?k9 ?_)
                (case k4 => exact NT)
                (case k9 => exact joined_does _ _ _ _ _ P1 pv pn (p0 :: prest) hl (.tail _ (.tail _ (.tail _ (.head _)))) (by omega) (fun p hp => Nat.le_trans (hsz p hp) (by decide)))
                walk_at "Muse4"
                intro n1 r1 h15 tk15 hR F15 N15
                refine Classical.byContradiction fun hng9 => ?_
                obtain ⟨rfl, uj, rfl⟩ := hR
                refine hng9 ?_
                clear hng9
                have hjd : joinedF (p0 :: prest) = prest.foldl pjStep p0 := by rw [hwh]; exact (joined_law _ _ rfl hkd).1
                rw [hjd]
                (k_unmd)
                k_steps
                unfold Stuck
                refine ne_strs N15 (.head _) hT (.tail _ (.tail _ (.tail _ (.tail _ (.tail _ (.tail _ (.tail _ (.head _)))))))) hS1 law_cl ?_
                have eN : (!(straightF (p0 :: prest) == straightF (p0 :: prest))) = false := by simp
                rw [eN]
                (k_unmd)
                k_steps
                unfold Stuck
                have htv0 : ∃ tr0, tv[0]? = some (.str r0 tr0) := by
                  rw [hr1] at hT
                  cases hT with
                  | cons a t h => exact ⟨t, rfl⟩
                have hTd : StrsAre (tv.drop 1) pl := by rw [hpl]; exact hT.drop' 1
                refine Classical.byContradiction fun hng9 => ?_
                obtain ⟨tr0, htv0⟩ := htv0
                refine hng9 ?_
                clear hng9
                with_reducible refine item_vals 0 N15 (List.Mem.head _) rfl (by decide) htv0 ?_
                (k_unmd)
                k_steps
                unfold Stuck
                refine for_G (h₀ := G) rfl rfl ?_
                k_steps
                unfold Stuck
                rename_i TK hq7 lTK hq8 FT NT2
                refine' kmk_slice_lit (l := DT) (zs := tv.drop 1) ?F7 ?N7 ?l7 (IsPart.int _ _) .none (congrArg Array.toList (from_vals tv 1)) ?_ ?s7 ?t7 ?z7
                (case F7 => k_asm)
                (case N7 => k_asm)
                (case l7 => exact News.isList (by k_asm) (.tail _ (.head _)))
                (case s7 => with_unfolding_all rfl)
                (case t7 => kmk_pure)
                (case z7 => rw [List.size_toArray, sizeLine_eq, hT.len_eq]; omega)
                intro D7 h7 F7 N7 l7
                (k_unmd)
                (try k_fold)
                have l7c := l7 (L0 + 1 + 1, oN) (.tail _ (.tail _ (.tail _ (.tail _ (.tail _ (.tail _ (.tail _ (.head _))))))))
                have l7t := l7 (172, tabObj tb1) (.tail _ (.tail _ (.tail _ (.tail _ (.tail _ (.head _))))))
                have h172c : (172 : Addr) ≠ L0 + 1 + 1 := Nat.ne_of_lt (Nat.lt_succ_of_lt (Nat.lt_succ_of_lt l0))
                refine Classical.byContradiction fun hng9 => ?_
                obtain ⟨ex3, hex3, hT3⟩ := tab_off N7 hT1 (fun p hp => .tail _ (.tail _ (.tail _ (.tail _ (.tail _ (.tail _ (.tail _ (.tail _ (.tail _ (.tail _ hp)))))))))) [(L0 + 1 + 1, oN)] (fun p hp => by rw [List.mem_singleton.mp hp]; exact .tail _ (.tail _ (.tail _ (.tail _ (.tail _ (.tail _ (.tail _ (.tail _ (.head _))))))))) (fun p hp => by rw [List.mem_singleton.mp hp]; exact no_cell dN)
                refine hng9 ?_
                clear hng9
                obtain ⟨K3, hK3⟩ : ∃ K3 : List (Addr × Obj), K3 = [(D7, listOf (tv.drop 1).toArray 0), (SD, listOf vs4.toArray e4)] := ⟨_, rfl⟩
                have hK3n : ∀ p ∈ K3, p.1 ≠ 172 ∧ p.1 ≠ L0 + 1 + 1 := by
                  rw [hK3]
                  exact List.forall_mem_cons.mpr ⟨⟨Nat.ne_of_gt l7t, Nat.ne_of_gt l7c⟩, List.forall_mem_cons.mpr ⟨⟨Nat.ne_of_gt hSD1, Nat.ne_of_gt hSD2⟩, fun _ h => nomatch h⟩⟩
                have hK3t : ∀ p ∈ K3, NoTxt p.2 := by
                  rw [hK3]
                  exact List.forall_mem_cons.mpr ⟨no_list, List.forall_mem_cons.mpr ⟨no_list, fun _ h => nomatch h⟩⟩
                have hK3D : (D7, listOf (tv.drop 1).toArray 0) ∈ K3 := by rw [hK3]; exact .head _
                have hK3S : (SD, listOf vs4.toArray e4) ∈ K3 := by rw [hK3]; exact .tail _ (.head _)
                have N8 : News G L0 h7 ((L0 + 1 + 1, oN) :: (172, tabObj tb1) :: (TK, listOf [Value.str r0 tr0].toArray 0) :: (ex3 ++ K3)) := cb_drop N7 (by
                  rw [hK3]
                  refine List.forall_mem_cons.mpr ⟨by k_mem, List.forall_mem_cons.mpr ⟨by k_mem, List.forall_mem_cons.mpr ⟨by k_mem, fun p hp => ?_⟩⟩⟩
                  rcases List.mem_append.mp hp with hp | hp
                  · exact .tail _ (.tail _ (.tail _ (.tail _ (.tail _ (.tail _ (.tail _ (.tail _ (.tail _ (.tail _ (hex3 p hp).1)))))))))
                  · rcases List.mem_cons.mp hp with rfl | hp
                    · k_mem
                    rcases List.mem_cons.mp hp with rfl | hp
                    · k_mem
                    · cases hp)
                clear N7 NT2 l7
                refine for_fr (σ := TkS) (o := sh1.os) (fun c => (L0 + 1 + 1, c.oN) :: (172, tabObj c.tb) :: (c.TK, listOf c.tv.toArray c.n) :: (c.ex ++ K3)) (fun c => [(Str.ofString "taken", .ref c.TK), (Str.ofString "due", .ref SD)])
                  (fun i c => (∃ v, c.oN.data = .cell v) ∧ StrsAre c.tv ((pl.take i).foldl takeStep [r0]) ∧ TabOk posL lamQ c.ex c.tb ∧ ∀ p ∈ (c.TK, listOf c.tv.toArray c.n) :: c.ex, p.1 ≠ 172 ∧ p.1 ≠ L0 + 1 + 1) ⟨TK, _, 0, oN, tb1, ex3⟩ rfl
                  (fun i c _ => .tail _ (.tail _ (.tail _ (List.mem_append.mpr (.inr hK3D))))) F7 N8 hB10 (all2 rfl rfl)
                  ⟨⟨_, dN⟩, .cons _ _ .nil, hT3, List.forall_mem_cons.mpr ⟨⟨Nat.ne_of_gt lTK.2.2.2.2.1, Nat.ne_of_gt lTK.2.2.2.2.2.2.1⟩, fun p hp => ⟨hP1 p (.tail _ (hex3 p hp).1), Ne.symm ((hex3 p hp).2 _ (.head _))⟩⟩⟩ ?_ ?_
                · intro c i v u12 s12 own hv hoff hnt hP hB12 F12 N12 R12 hR12
                  obtain ⟨TK1, tv1, tn1, oN1, tb2, ex2⟩ := c
                  refine Classical.byContradiction fun hng9 => ?_
                  obtain ⟨⟨vN1, dN1⟩, htv1, hT2, hP2⟩ := hP
                  obtain ⟨y, ty, rfl, hy⟩ := StrsAre.item hTd i v hv
                  refine hng9 ?_
                  clear hng9
                  dsimp only at dN1 htv1 hT2 hP2 hoff F12 N12
                  change Fr G L0 _ _ at F12
                  change News G L0 _ _ at N12
                  have hyp : StP y := hst y (List.mem_of_getElem? hy)
                  obtain ⟨W3, hW3⟩ : ∃ W3, W3 = K3 ++ own := ⟨_, rfl⟩
                  have hown := own_at hoff
                  have hW3n : ∀ q ∈ W3, q.1 ≠ 172 ∧ q.1 ≠ L0 + 1 + 1 := by
                    rw [hW3]
                    intro q hq
                    rcases List.mem_append.mp hq with hq | hq
                    · exact hK3n q hq
                    · exact ⟨hown (172, tabObj tb2) (.tail _ (.head _)) q hq, hown (L0 + 1 + 1, oN1) (.head _) q hq⟩
                  have hW3t : ∀ q ∈ W3, NoTxt q.2 := by
                    rw [hW3]
                    exact fun q hq => (List.mem_append.mp hq).elim (hK3t q) (hnt q)
                  have hoW : ∀ p ∈ own, p ∈ W3 := fun p hp => by rw [hW3]; exact List.mem_append.mpr (.inr hp)
                  have hKW : ∀ p ∈ K3, p ∈ W3 := fun p hp => by rw [hW3]; exact List.mem_append.mpr (.inl hp)
                  have N13 : News G L0 s12.heap ((L0 + 1 + 1, oN1) :: (172, tabObj tb2) :: (TK1, listOf tv1.toArray tn1) :: (ex2 ++ W3)) := by
                    rw [hW3, ← List.append_assoc]
                    exact N12
                  have hall : ∀ p ∈ (172, tabObj tb2) :: (TK1, listOf tv1.toArray tn1) :: (ex2 ++ W3), p.1 ≠ L0 + 1 + 1 :=
                    List.forall_mem_cons.mpr ⟨h172c, List.forall_mem_cons.mpr ⟨(hP2 _ (.head _)).2, fun p hp => (List.mem_append.mp hp).elim (fun h => (hP2 p (.tail _ h)).2) fun h => (hW3n p h).2⟩⟩
                  clear N12
                  (k_unmd)
                  (try k_fold)
                  k_steps
                  unfold Stuck
                  refine cut_at (σ := TkS) (o := sh1.os) F12 (fun c => (L0 + 1 + 1, c.oN) :: (172, tabObj c.tb) :: (c.TK, listOf c.tv.toArray c.n) :: (TK1, listOf tv1.toArray tn1) :: (c.ex ++ W3)) (fun _ => []) []
                    (fun c => c.oN.data = .cell (some (.ref c.TK)) ∧ StrsAre c.tv (namesOf y) ∧ TabOk posL lamQ c.ex c.tb ∧ ∀ q ∈ c.ex, q.1 ≠ 172 ∧ q.1 ≠ L0 + 1 + 1 ∧ ∀ p ∈ own, p.1 ≠ q.1) ?_ ?_
                  · intro Rc hC9
                    have hgo := goOn
                    walk_at "exec Assign"
                    k_steps
                    · rename_i lb hb1 lb1 la hb2 la2 hb3 oA2 FB NB dB2
                      refine hC9 _ (meet (⟨la, [Value.str y ty], 0, oA2, tb2, ex2⟩ : TkS) FB NB (List.forall_mem_cons.mpr ⟨.tail _ (.tail _ (.head _)), List.forall_mem_cons.mpr ⟨.tail _ (.tail _ (.tail _ (.head _))), List.forall_mem_cons.mpr ⟨.head _, fun p hp => .tail _ (.tail _ (.tail _ (.tail _ hp)))⟩⟩⟩)
                        (fun _ h => nomatch h) (fun _ _ _ => rfl) ⟨dB2, ?_, hT2, fun q hq => ⟨(hP2 q (.tail _ hq)).1, (hP2 q (.tail _ hq)).2, hown q (.tail _ (.tail _ (.tail _ (List.mem_append.mpr (.inl hq)))))⟩⟩ hB12)
                      rw [names_in (by assumption)]
                      exact .cons _ _ .nil
                    · unfold Stuck
                      rename_i lb hb1 FB NB lb1 ha9
                      refine Classical.byContradiction fun hng9 => ?_
                      obtain ⟨ns8, hm8, hn8⟩ := out_pat hyp ha9
                      obtain ⟨fin, htr, hfl, htk⟩ := taken_names hm8
                      refine hng9 ?_
                      clear hng9
                      have N8' : News G L0 hb1 ((172, tabObj tb2) :: (L0 + 1 + 1, oN1) :: (TK1, listOf tv1.toArray tn1) :: (ex2 ++ W3)) := fun p hp => NB p (by
                        rcases List.mem_cons.mp hp with rfl | hp
                        · exact .tail _ (.tail _ (.head _))
                        rcases List.mem_cons.mp hp with rfl | hp
                        · exact .tail _ (.head _)
                        · exact .tail _ (.tail _ (.tail _ hp)))
                      have hr172 : ∀ q ∈ (L0 + 1 + 1, oN1) :: (TK1, listOf tv1.toArray tn1) :: (ex2 ++ W3), q.1 ≠ 172 :=
                        List.forall_mem_cons.mpr ⟨Ne.symm h172c, List.forall_mem_cons.mpr ⟨(hP2 _ (.head _)).1, fun p hp => (List.mem_append.mp hp).elim (fun h => (hP2 p (.tail _ h)).1) fun h => (hW3n p h).1⟩⟩
                      k_dflt (refine' @DoesG.use _ _ _ _ _ _ _ _ _ _ _ _ _ _ _ _ _ _ _ _ _ _ _ _ _ _ _ _ _ _ _ ?k1 ?k2 ?k3 ?k4 ?k5 ?k6 ?k7 ?k8 ?k9 ?_ ?k10)
                      (case k9 => exact taken_does _ _ _ _ ((L0 + 1 + 1, oN1) :: (TK1, listOf tv1.toArray tn1) :: (ex2 ++ W3)) tb2 y ty (Nat.le_trans (stp_len hyp) (by decide)) hr172 fin htr hfl (tab_sub hT2 fun p hp => .tail _ (.tail _ (List.mem_append.mpr (.inl hp)))))
                      (case k4 => exact N8')
                      (case k10 => exact hB12)
                      walk_at "Muse4"
                      intro n' r' s13 hR hB13 F13 N14
                      refine Classical.byContradiction fun hng9 => ?_
                      obtain ⟨D9, vs9, k9, tb9, ex9, rfl, rfl, hS9, hT9', hex9, hD9, hrD⟩ := hR
                      rw [htk] at hS9
                      obtain ⟨ex4, hex4, hT4⟩ := tab_off N14 (tab_only (l' := ex9 ++ ex2) hT9' (by
                        intro p hp
                        rcases List.mem_append.mp hp with h | hp
                        · exact .inl (List.mem_append.mpr (.inl h))
                        rcases List.mem_cons.mp hp with rfl | hp
                        · exact .inr (no_cell dN1)
                        rcases List.mem_cons.mp hp with rfl | hp
                        · exact .inr no_list
                        rcases List.mem_append.mp hp with h | h
                        · exact .inl (List.mem_append.mpr (.inr h))
                        · exact .inr (hW3t p h))) (fun p hp => .tail _ (.tail _ (List.mem_append.mpr ((List.mem_append.mp hp).imp id fun h => .tail _ (.tail _ (List.mem_append.mpr (.inl h))))))) ((L0 + 1 + 1, oN1) :: own) (List.forall_mem_cons.mpr ⟨.tail _ (.tail _ (List.mem_append.mpr (.inr (.head _)))), fun p hp => .tail _ (.tail _ (List.mem_append.mpr (.inr (.tail _ (.tail _ (List.mem_append.mpr (.inr (hoW p hp)))))))) ⟩) (List.forall_mem_cons.mpr ⟨no_cell dN1, hnt⟩)
                      refine hng9 ?_
                      clear hng9 hT9'
                      have hD9c : D9 ≠ L0 + 1 + 1 := Ne.symm (hrD _ (.head _))
                      have N15' : News G L0 s13.heap ((L0 + 1 + 1, oN1) :: (172, tabObj tb9) :: (D9, listOf vs9.toArray k9) :: (TK1, listOf tv1.toArray tn1) :: (ex4 ++ W3)) := fun p hp => N14 p (by
                        rcases List.mem_cons.mp hp with rfl | hp
                        · exact .tail _ (.tail _ (List.mem_append.mpr (.inr (.head _))))
                        rcases List.mem_cons.mp hp with rfl | hp
                        · exact .tail _ (.head _)
                        rcases List.mem_cons.mp hp with rfl | hp
                        · exact .head _
                        rcases List.mem_cons.mp hp with rfl | hp
                        · exact .tail _ (.tail _ (List.mem_append.mpr (.inr (.tail _ (.head _)))))
                        rcases List.mem_append.mp hp with hp | hp
                        · rcases List.mem_append.mp (hex4 p hp).1 with h | h
                          · exact .tail _ (.tail _ (List.mem_append.mpr (.inl h)))
                          · exact .tail _ (.tail _ (List.mem_append.mpr (.inr (.tail _ (.tail _ (List.mem_append.mpr (.inl h)))))))
                        · exact .tail _ (.tail _ (List.mem_append.mpr (.inr (.tail _ (.tail _ (List.mem_append.mpr (.inr hp))))))))
                      have hall2 : ∀ p ∈ (172, tabObj tb9) :: (D9, listOf vs9.toArray k9) :: (TK1, listOf tv1.toArray tn1) :: (ex4 ++ W3), p.1 ≠ L0 + 1 + 1 :=
                        List.forall_mem_cons.mpr ⟨h172c, List.forall_mem_cons.mpr ⟨hD9c, List.forall_mem_cons.mpr ⟨(hP2 _ (.head _)).2, fun p hp => (List.mem_append.mp hp).elim (fun h => Ne.symm ((hex4 p h).2 _ (.head _))) fun h => (hW3n p h).2⟩⟩⟩
                      clear N14 N8' NB
                      (k_unmd)
                      k_steps
                      rename_i hb2 oA2 FC NC dC
                      refine hC9 _ (meet (⟨D9, vs9, k9, oA2, tb9, ex4⟩ : TkS) FC NC (fun p hp => hp) (fun _ h => nomatch h) (fun _ _ _ => rfl) ⟨dC, by rw [hn8]; exact hS9, hT4, fun q hq => ⟨?_, Ne.symm ((hex4 q hq).2 _ (.head _)), fun p hp => (hex4 q hq).2 p (.tail _ hp)⟩⟩ hB13)
                      rcases List.mem_append.mp (hex4 q hq).1 with h | h
                      · exact (hex9 q h).1
                      · exact (hP2 q (.tail _ h)).1
                  · intro c u13 s13 hs13 hP13 F13 N14
                    obtain ⟨N1, nv, nn, oN2, tb3, ex4⟩ := c
                    refine Classical.byContradiction fun hng9 => ?_
                    obtain ⟨dN2, hnv, hT4, hex4⟩ := hP13
                    obtain ⟨-, hB13⟩ := hs13
                    refine hng9 ?_
                    clear hng9
                    dsimp only at dN2 hnv hT4 hex4 F13 N14
                    refine (fr_forget F13 [(Str.ofString "taken", .ref TK1), (Str.ofString "due", .ref SD)] (all2 rfl rfl)).elim fun uz13 FQ => ?_
                    clear F13
                    have F13 := FQ
                    clear FQ
                    change Fr G L0 _ _ at F13
                    change News G L0 _ _ at N14
                    have hN1l := stp_names hyp
                    (k_unmd)
                    k_steps
                    unfold Stuck
                    k_dflt (refine asgComp2 (F₀ := by k_asm) (by rfl) (by with_unfolding_all rfl) (by rfl) (by rfl) (by rfl) (by decide) (by rfl) (by decide) (by decide) (by rfl) (by rfl) ?_)
                    k_steps
                    obtain ⟨NW, hNW⟩ : ∃ NW, NW = (L0 + 1 + 1, oN2) :: (172, tabObj tb3) :: (N1, listOf nv.toArray nn) :: (TK1, listOf tv1.toArray tn1) :: (ex4 ++ W3) := ⟨_, rfl⟩
                    rw [← hNW] at N14
                    have hmT : (TK1, listOf tv1.toArray tn1) ∈ NW := by rw [hNW]; exact .tail _ (.tail _ (.tail _ (.head _)))
                    have hmN : (N1, listOf nv.toArray nn) ∈ NW := by rw [hNW]; exact .tail _ (.tail _ (.head _))
                    have hmC : (L0 + 1 + 1, oN2) ∈ NW := by rw [hNW]; exact .head _
                    have hm172 : (172, tabObj tb3) ∈ NW := by rw [hNW]; exact .tail _ (.head _)
                    have hmE : ∀ p ∈ ex4, p ∈ NW := fun p hp => by rw [hNW]; exact .tail _ (.tail _ (.tail _ (.tail _ (List.mem_append.mpr (.inl hp)))))
                    have hmW : ∀ p ∈ W3, p ∈ NW := fun p hp => by rw [hNW]; exact .tail _ (.tail _ (.tail _ (.tail _ (List.mem_append.mpr (.inr hp)))))
                    clear hNW
                    have htl6 : (pl.take i).length ≤ 6 := Nat.le_trans (List.length_take_le' _ _) hpll
                    have hsti : ∀ p ∈ pl.take i, StP p := fun p hp => hst p (List.mem_of_mem_take hp)
                    have htsz := taken_sz hr0l hsti
                    generalize hac : (pl.take i).foldl takeStep [r0] = accs at htv1 htsz
                    have htvl : tv1.length ≤ 64 := by rw [htv1.len_eq]; exact Nat.le_trans htsz.1 (pow_le6 htl6)
                    have hnl : nv.length ≤ 2 := by rw [hnv.len_eq]; exact hN1l.1
                    have hdn : tv1.length * nv.length + nv.length ≤ sizeLine := by
                      have := Nat.mul_le_mul htvl hnl
                      rw [sizeLine_eq]; omega
                    refine gsrc_mk (o := sh1.os) (bx := N1) (ws := nv) (vs := tv1) (nn := tn1) (mm := nn) (fun a b ys nw => nw = NW ∧ StrsAre ys (doneG (fun pl n => pjStep pl n) (namesOf y) accs a b)) rfl F13 N14 hdn ?_ ?_ ⟨rfl, by rw [done_start]; exact .nil⟩ hB13 ?_ ?_ ?_
                    · rintro a b ys nw ⟨e, -⟩
                      rw [e]
                      exact ⟨hmT, hmN⟩
                    · rintro a ys nw ⟨e, h1⟩
                      rw [hnv.len_eq, done_row] at h1
                      exact ⟨e, h1⟩
                    · rintro a b v1 v2 ys nw I2 oI2 I oI C oC D m2 s2 E2 hv1 hv2 ⟨e, hY⟩ hB2 hC2 hx2 hy2 F2 N2 off off2
                      rw [e] at N2 off off2
                      refine Classical.byContradiction fun hng9 => ?_
                      obtain ⟨z, tz, rfl, hz⟩ := StrsAre.item htv1 a v1 hv1
                      obtain ⟨n, tn, rfl, hn⟩ := StrsAre.item hnv b v2 hv2
                      refine hng9 ?_
                      clear hng9
                      have hzl := htsz.2 z (List.mem_of_getElem? hz)
                      have hnl2 := hN1l.2 n (List.mem_of_getElem? hn)
                      k_steps
                      unfold Stuck
                      k_dflt (refine' @Does.use _ _ _ _ _ _ _ _ _ _ _ _ _ _ _ _ _ _ _ _ _ _ _ _ _ _ _ _ _ _ ?k1 ?k2 ?k3 ?k4 ?k5 ?k6 ?k7 ?k8 ?k9 ?_)
                      (case k9 => exact join_does _ _ _ _ _ z tz [Value.str n tn] [n] (.cons _ _ .nil) (by simp only [List.map_cons, List.map_nil, List.sum_cons, List.sum_nil, List.length_singleton]; omega))
                      walk_at "Muse"
                      intro n1 r1 h14 tk14 hR F14 N15'
                      refine Classical.byContradiction fun hng9 => ?_
                      obtain ⟨rfl, ut2, rfl⟩ := hR
                      refine hng9 ?_
                      clear hng9
                      exact ⟨NW, hB2, F14, N15', off, off2, rfl, by rw [done_next hz hn]; exact strs_snoc hY⟩
                    · rintro a ys nw I oI C oC D m2 s2 E2 ⟨e, -⟩ hB2 hC2 F2 N2 off
                      rw [e] at N2
                      refine lcf_cell (c := L0 + 1 + 1) N2 (by rfl) (.tail _ (.tail _ (.tail _ hmC))) dN2 ⟨rfl, s2.toks, rfl⟩ (by rfl) (by rfl)
                    · rintro ys nw D s2 ⟨e, h1⟩ hB2 F2 N2 off
                      rw [e] at N2 off
                      have offm := mem1 off
                      rw [htv1.len_eq, done_all] at h1
                      k_steps
                      refine hR12 _ _ (for_frE (⟨D, ys, ys.length, oN2, tb3, ex4⟩ : TkS) hB2 F2 N2 ?_ (fun p hp => .tail _ (hmW p (hoW p hp))) (own_mk ?_) (all2 rfl rfl) ⟨⟨_, dN2⟩, ?_, hT4, ?_⟩)
                      · refine List.forall_mem_cons.mpr ⟨.tail _ hmC, List.forall_mem_cons.mpr ⟨.tail _ hm172, List.forall_mem_cons.mpr ⟨.head _, fun p hp => .tail _ ((List.mem_append.mp hp).elim (hmE p) fun h => hmW p (hKW p h))⟩⟩⟩
                      · refine List.forall_mem_cons.mpr ⟨hown (L0 + 1 + 1, oN1) (.head _), List.forall_mem_cons.mpr ⟨hown (172, tabObj tb2) (.tail _ (.head _)), List.forall_mem_cons.mpr ⟨fun p hp => offm p (hmW p (hoW p hp)), fun q hq => ?_⟩⟩⟩
                        rcases List.mem_append.mp hq with hq | hq
                        · exact (hex4 q hq).2.2
                        · exact hown q (.tail _ (.tail _ (.tail _ (List.mem_append.mpr (.inr hq)))))
                      · rw [taken_more hy, hac]
                        exact h1
                      · exact List.forall_mem_cons.mpr ⟨⟨Ne.symm (offm _ hm172), Ne.symm (offm _ hmC)⟩, fun p hp => ⟨(hex4 p hp).1, (hex4 p hp).2.1⟩⟩
                · intro c u12 s12 hP hB12 F12 N12
                  obtain ⟨TK1, tv1, tn1, oN1, tb2, ex2⟩ := c
                  refine Classical.byContradiction fun hng9 => ?_
                  obtain ⟨-, htv1, hT2, hP2⟩ := hP
                  refine hng9 ?_
                  clear hng9
                  dsimp only at htv1 hT2 hP2 F12 N12
                  change Fr G L0 _ _ at F12
                  change News G L0 _ _ at N12
                  rw [List.take_of_length_le (by rw [hTd.len_eq]; exact Nat.le_refl _)] at htv1
                  have htk : pl.foldl takeStep [r0] = dueU (straightF (p0 :: prest)) := by
                    have ok := pl_ok hdr
                    have h1 := taken_law ok.gd ok.pt
                    rw [← straight_law hkd] at h1
                    rw [← h1]
                    unfold takenU
                    rw [hpl, hr1]; rfl
                  rw [htk] at htv1
                  have htl : tv1.length ≤ 32 := by
                    have h1 := due_len hdr
                    rw [hpn] at h1
                    rw [htv1.len_eq]; exact h1
                  (k_unmd)
                  (try k_fold)
                  k_steps
                  unfold Stuck
                  refine sorted_N_str F12 N12 (News.isList N12 (.tail _ (.tail _ (.head _)))) htv1 (by omega) ?_
                  intro h5 vs5 st5 e5 F5' N5' hS5 hp5 hs5
                  have hts : st5 = sd := sorted_uniq hs5 hs4 (hp5.trans hp4.symm)
                  generalize s12.heap.objs.size + 1 = SP at N5' ⊢
                  k_steps
                  unfold Stuck
                  refine eq_strs N5' (.head _) hS5 (.tail _ (.tail _ (.tail _ (.tail _ (List.mem_append.mpr (.inr hK3S)))))) hS4 law_cl ?_
                  have NE : Unit → News G L0 h5 [(172, tabObj tb2)] := fun _ p hp => by rw [List.mem_singleton.mp hp]; exact N5' _ (.tail _ (.tail _ (.head _)))
                  (k_unmd)
                  k_steps
                  exact law_end (by rw [hts, beq_self_eq_true]) hB12 rfl rfl rfl F5' (NE ())
    · intro f s' hf
      obtain ⟨rfl, hB, m9, tb9, F9, N9⟩ := hf
      refine ⟨⟨?_, hB.1⟩, GrownAt.of N9 (.head _), True.intro⟩
      refine goodW_bool (b := true) (s' := { s' with gens := #[] }) F9 rfl (raisesW_false ?_) ?_ hB.2
      · wrow_none_raised
      · wrow_post
    · exact fun _ _ h => h.elim
end
end Mine
theorem PySem.Challenge.cw_rx0110_01_holds : PySem.Challenge.rw_rx0110_01.Holds :=
  holds_law (by decide +kernel) Mine.law1
