import PyProof.Rows.All
import Wide.All
import OpenK.AllK
import Wide.FinOn
import PyProof.FactsAll.list_1
import PyProof.IsiH_list
import PyProof.FactsAll.str_8
import Lean
import PySem.Challenge.RW_rx0110_02
open PySem PySem.W PyProof.Rows
set_option Elab.async false
set_option maxRecDepth 100000
set_option maxHeartbeats 8000000
set_option linter.all false
set_option linter.unusedSimpArgs false
set_option genSizeOf false
set_option genInjectivity false
namespace Mine

/-! the head: which statements are looked at, and the written part of the state -/
abbrev bd : List PySem.Stmt := PySem.Challenge.pw_rx0110_02.main.body
def defOf9 : PySem.Stmt → Option (PySem.Arguments × List PySem.Stmt × PySem.Scope)
  | .FunctionDef _ a b _ _ _ c _ _ _ => some (a, b, c)
  | _ => none
def defAt (l : List PySem.Stmt) (i : Nat) : Option (PySem.Arguments × List PySem.Stmt × PySem.Scope) := l[i]?.bind defOf9
def metAt (l : List PySem.Stmt) (i j : Nat) : Option (PySem.Arguments × List PySem.Stmt × PySem.Scope) := match l[i]? with
  | some (.ClassDef _ _ _ b _ _ _ _ _ _ _) => defAt b j
  | _ => none
noncomputable def hd.view_39 : PySem.Program := by
  refine (?f : ∀ (s0 : PySem.Stmt) (_ : bd[0]? = some s0), ∀ (s1 : PySem.Stmt) (_ : bd[1]? = some s1), ∀ (s2 : PySem.Stmt) (_ : bd[2]? = some s2), ∀ (s4 : PySem.Stmt) (_ : bd[4]? = some s4), ∀ (s5 : PySem.Stmt) (_ : bd[5]? = some s5), ∀ (s7 : PySem.Stmt) (_ : bd[7]? = some s7), ∀ (s9 : PySem.Stmt) (_ : bd[9]? = some s9), ∀ (s11 : PySem.Stmt) (_ : bd[11]? = some s11), ∀ (s13 : PySem.Stmt) (_ : bd[13]? = some s13), ∀ (s14 : PySem.Stmt) (_ : bd[14]? = some s14), ∀ (s16 : PySem.Stmt) (_ : bd[16]? = some s16), ∀ (s18 : PySem.Stmt) (_ : bd[18]? = some s18), ∀ (s20 : PySem.Stmt) (_ : bd[20]? = some s20), ∀ (s21 : PySem.Stmt) (_ : bd[21]? = some s21), ∀ (s22 : PySem.Stmt) (_ : bd[22]? = some s22), ∀ (s23 : PySem.Stmt) (_ : bd[23]? = some s23), ∀ (s24 : PySem.Stmt) (_ : bd[24]? = some s24), ∀ (s26 : PySem.Stmt) (_ : bd[26]? = some s26), ∀ (s27 : PySem.Stmt) (_ : bd[27]? = some s27), ∀ (s28 : PySem.Stmt) (_ : bd[28]? = some s28), ∀ (s29 : PySem.Stmt) (_ : bd[29]? = some s29), ∀ (s30 : PySem.Stmt) (_ : bd[30]? = some s30), ∀ (s31 : PySem.Stmt) (_ : bd[31]? = some s31), PySem.Program) ?s0 ?h0 ?s1 ?h1 ?s2 ?h2 ?s4 ?h4 ?s5 ?h5 ?s7 ?h7 ?s9 ?h9 ?s11 ?h11 ?s13 ?h13 ?s14 ?h14 ?s16 ?h16 ?s18 ?h18 ?s20 ?h20 ?s21 ?h21 ?s22 ?h22 ?s23 ?h23 ?s24 ?h24 ?s26 ?h26 ?s27 ?h27 ?s28 ?h28 ?s29 ?h29 ?s30 ?h30 ?s31 ?h31
  case h0 => exact rfl
  case h1 => exact rfl
  case h2 => exact rfl
  case h4 => exact rfl
  case h5 => exact rfl
  case h7 => exact rfl
  case h9 => exact rfl
  case h11 => exact rfl
  case h13 => exact rfl
  case h14 => exact rfl
  case h16 => exact rfl
  case h18 => exact rfl
  case h20 => exact rfl
  case h21 => exact rfl
  case h22 => exact rfl
  case h23 => exact rfl
  case h24 => exact rfl
  case h26 => exact rfl
  case h27 => exact rfl
  case h28 => exact rfl
  case h29 => exact rfl
  case h30 => exact rfl
  case h31 => exact rfl
  case f => exact fun s0 _ s1 _ s2 _ s4 _ s5 _ s7 _ s9 _ s11 _ s13 _ s14 _ s16 _ s18 _ s20 _ s21 _ s22 _ s23 _ s24 _ s26 _ s27 _ s28 _ s29 _ s30 _ s31 _ => { PySem.Challenge.pw_rx0110_02 with main := { PySem.Challenge.pw_rx0110_02.main with body := [s0, s1, s2, s4, s5, s7, s9, s11, s13, s14, s16, s18, s20, s21, s22, s23, s24, s26, s27, s28, s29, s30, s31] } }
noncomputable def hd.heap_39 : PySem.Params → PySem.W.Frag := by
  refine (?f : ∀ (a38 : PySem.Arguments) (b38 : List PySem.Stmt) (c38 : PySem.Scope) (_ : defAt bd 1 = some (a38, b38, c38)), ∀ (a55 : PySem.Arguments) (b55 : List PySem.Stmt) (c55 : PySem.Scope) (_ : defAt bd 5 = some (a55, b55, c55)), ∀ (a62 : PySem.Arguments) (b62 : List PySem.Stmt) (c62 : PySem.Scope) (_ : defAt bd 7 = some (a62, b62, c62)), ∀ (a69 : PySem.Arguments) (b69 : List PySem.Stmt) (c69 : PySem.Scope) (_ : defAt bd 9 = some (a69, b69, c69)), ∀ (a83 : PySem.Arguments) (b83 : List PySem.Stmt) (c83 : PySem.Scope) (_ : metAt bd 11 0 = some (a83, b83, c83)), ∀ (a102 : PySem.Arguments) (b102 : List PySem.Stmt) (c102 : PySem.Scope) (_ : metAt bd 13 0 = some (a102, b102, c102)), ∀ (a109 : PySem.Arguments) (b109 : List PySem.Stmt) (c109 : PySem.Scope) (_ : metAt bd 13 1 = some (a109, b109, c109)), ∀ (a116 : PySem.Arguments) (b116 : List PySem.Stmt) (c116 : PySem.Scope) (_ : metAt bd 13 2 = some (a116, b116, c116)), ∀ (a128 : PySem.Arguments) (b128 : List PySem.Stmt) (c128 : PySem.Scope) (_ : defAt bd 14 = some (a128, b128, c128)), ∀ (a135 : PySem.Arguments) (b135 : List PySem.Stmt) (c135 : PySem.Scope) (_ : defAt bd 16 = some (a135, b135, c135)), ∀ (a142 : PySem.Arguments) (b142 : List PySem.Stmt) (c142 : PySem.Scope) (_ : defAt bd 18 = some (a142, b142, c142)), ∀ (a149 : PySem.Arguments) (b149 : List PySem.Stmt) (c149 : PySem.Scope) (_ : defAt bd 20 = some (a149, b149, c149)), ∀ (a156 : PySem.Arguments) (b156 : List PySem.Stmt) (c156 : PySem.Scope) (_ : defAt bd 21 = some (a156, b156, c156)), ∀ (a163 : PySem.Arguments) (b163 : List PySem.Stmt) (c163 : PySem.Scope) (_ : defAt bd 22 = some (a163, b163, c163)), ∀ (a170 : PySem.Arguments) (b170 : List PySem.Stmt) (c170 : PySem.Scope) (_ : defAt bd 23 = some (a170, b170, c170)), ∀ (a177 : PySem.Arguments) (b177 : List PySem.Stmt) (c177 : PySem.Scope) (_ : defAt bd 24 = some (a177, b177, c177)), ∀ (a184 : PySem.Arguments) (b184 : List PySem.Stmt) (c184 : PySem.Scope) (_ : defAt bd 26 = some (a184, b184, c184)), ∀ (a189 : PySem.Arguments) (b189 : List PySem.Stmt) (c189 : PySem.Scope) (_ : defAt bd 27 = some (a189, b189, c189)), ∀ (a196 : PySem.Arguments) (b196 : List PySem.Stmt) (c196 : PySem.Scope) (_ : defAt bd 28 = some (a196, b196, c196)), ∀ (a201 : PySem.Arguments) (b201 : List PySem.Stmt) (c201 : PySem.Scope) (_ : defAt bd 29 = some (a201, b201, c201)), ∀ (a208 : PySem.Arguments) (b208 : List PySem.Stmt) (c208 : PySem.Scope) (_ : defAt bd 30 = some (a208, b208, c208)), ∀ (a213 : PySem.Arguments) (b213 : List PySem.Stmt) (c213 : PySem.Scope) (_ : defAt bd 31 = some (a213, b213, c213)), PySem.Params → PySem.W.Frag) ?a38 ?b38 ?c38 ?h38 ?a55 ?b55 ?c55 ?h55 ?a62 ?b62 ?c62 ?h62 ?a69 ?b69 ?c69 ?h69 ?a83 ?b83 ?c83 ?h83 ?a102 ?b102 ?c102 ?h102 ?a109 ?b109 ?c109 ?h109 ?a116 ?b116 ?c116 ?h116 ?a128 ?b128 ?c128 ?h128 ?a135 ?b135 ?c135 ?h135 ?a142 ?b142 ?c142 ?h142 ?a149 ?b149 ?c149 ?h149 ?a156 ?b156 ?c156 ?h156 ?a163 ?b163 ?c163 ?h163 ?a170 ?b170 ?c170 ?h170 ?a177 ?b177 ?c177 ?h177 ?a184 ?b184 ?c184 ?h184 ?a189 ?b189 ?c189 ?h189 ?a196 ?b196 ?c196 ?h196 ?a201 ?b201 ?c201 ?h201 ?a208 ?b208 ?c208 ?h208 ?a213 ?b213 ?c213 ?h213
  case h38 => exact rfl
  case h55 => exact rfl
  case h62 => exact rfl
  case h69 => exact rfl
  case h83 => exact rfl
  case h102 => exact rfl
  case h109 => exact rfl
  case h116 => exact rfl
  case h128 => exact rfl
  case h135 => exact rfl
  case h142 => exact rfl
  case h149 => exact rfl
  case h156 => exact rfl
  case h163 => exact rfl
  case h170 => exact rfl
  case h177 => exact rfl
  case h184 => exact rfl
  case h189 => exact rfl
  case h196 => exact rfl
  case h201 => exact rfl
  case h208 => exact rfl
  case h213 => exact rfl
  case f => exact fun a38 b38 c38 _ a55 b55 c55 _ a62 b62 c62 _ a69 b69 c69 _ a83 b83 c83 _ a102 b102 c102 _ a109 b109 c109 _ a116 b116 c116 _ a128 b128 c128 _ a135 b135 c135 _ a142 b142 c142 _ a149 b149 c149 _ a156 b156 c156 _ a163 b163 c163 _ a170 b170 c170 _ a177 b177 c177 _ a184 b184 c184 _ a189 b189 c189 _ a196 b196 c196 _ a201 b201 c201 _ a208 b208 c208 _ a213 b213 c213 _ => fun P =>
(nat_lit 2, ({ cls := PySem.Value.none, data := PySem.Data.dict #[{ hash := PySem.PyData.keyHash P (PySem.Str.ofString "\x69mport.loaded._sre"), key := PySem.Value.str (PySem.Str.ofString "\x69mport.loaded._sre") 183, val := PySem.Value.bool Bool.true }, { hash := PySem.PyData.keyHash P (PySem.Str.ofString "class._frozen_importlib.BuiltinImporter"), key := PySem.Value.str (PySem.Str.ofString "class._frozen_importlib.BuiltinImporter") 185, val := PySem.Value.ref 14 }, { hash := PySem.PyData.keyHash P (PySem.Str.ofString "watched.\x69mport"), key := PySem.Value.str (PySem.Str.ofString "watched.\x69mport") 206, val := PySem.Value.ref 18 }, { hash := PySem.PyData.keyHash P (PySem.Str.ofString "class._frozen_importlib.ModuleSpec"), key := PySem.Value.str (PySem.Str.ofString "class._frozen_importlib.ModuleSpec") 216, val := PySem.Value.ref 22 }, { hash := PySem.PyData.keyHash P (PySem.Str.ofString "sys.modules.booked-epoch"), key := PySem.Value.str (PySem.Str.ofString "sys.modules.booked-epoch") 245, val := PySem.Value.int 3 0 }, { hash := PySem.PyData.keyHash P (PySem.Str.ofString "\x69mport.later-laid._sre"), key := PySem.Value.str (PySem.Str.ofString "\x69mport.later-laid._sre") 270, val := PySem.Value.bool Bool.true }, { hash := PySem.PyData.keyHash P (PySem.Str.ofString "watched.library"), key := PySem.Value.str (PySem.Str.ofString "watched.library") 272, val := PySem.Value.ref 27 }, { hash := PySem.PyData.keyHash P (PySem.Str.ofString "watched.library-objects"), key := PySem.Value.str (PySem.Str.ofString "watched.library-objects") 0, val := PySem.Value.str (PySem.Str.ofString "\x0c") 0 }, { hash := PySem.PyData.keyHash P (PySem.Str.ofString "watched.library-deep._sre"), key := PySem.Value.str (PySem.Str.ofString "watched.library-deep._sre") 273, val := PySem.Value.str (PySem.Str.ofString "\x04\x00\x00\x0b\x04\x00\x00\x0b\x04\x00\x00\x03\x04\x00\x00\x0b\x08\x04dict\x02") 0 }] 9 } : PySem.Obj)) ::
(nat_lit 3, ({ cls := PySem.Value.type "dict", data := PySem.Data.dict #[{ hash := PySem.PyData.keyHash P (PySem.Str.ofString "__name__"), key := PySem.Value.str (PySem.Str.ofString "__name__") 165, val := PySem.Value.str (PySem.Str.ofString "law_rx0110_02") 670 }, { hash := PySem.PyData.keyHash P (PySem.Str.ofString "__doc__"), key := PySem.Value.str (PySem.Str.ofString "__doc__") 166, val := PySem.Value.none }, { hash := PySem.PyData.keyHash P (PySem.Str.ofString "__package__"), key := PySem.Value.str (PySem.Str.ofString "__package__") 167, val := PySem.Value.none }, { hash := PySem.PyData.keyHash P (PySem.Str.ofString "__loader__"), key := PySem.Value.str (PySem.Str.ofString "__loader__") 168, val := PySem.Value.builtin "__main__.__loader__#opaque" }, { hash := PySem.PyData.keyHash P (PySem.Str.ofString "__spec__"), key := PySem.Value.str (PySem.Str.ofString "__spec__") 169, val := PySem.Value.none }, { hash := PySem.PyData.keyHash P (PySem.Str.ofString "__annotations__"), key := PySem.Value.str (PySem.Str.ofString "__annotations__") 170, val := PySem.Value.ref 6 }, { hash := PySem.PyData.keyHash P (PySem.Str.ofString "__builtins__"), key := PySem.Value.str (PySem.Str.ofString "__builtins__") 171, val := PySem.Value.ref 4 }, { hash := PySem.PyData.keyHash P (PySem.Str.ofString "__file__"), key := PySem.Value.str (PySem.Str.ofString "__file__") 173, val := PySem.Value.str (PySem.Str.ofString "/claim/cut.py") 172 }, { hash := PySem.PyData.keyHash P (PySem.Str.ofString "__cached__"), key := PySem.Value.str (PySem.Str.ofString "__cached__") 174, val := PySem.Value.none }, { hash := PySem.PyData.keyHash P (PySem.Str.ofString "_sre"), key := PySem.Value.str (PySem.Str.ofString "_sre") 275, val := PySem.Value.ref 12 }, { hash := PySem.PyData.keyHash P (PySem.Str.ofString "_wall"), key := PySem.Value.str (PySem.Str.ofString "_wall") 288, val := PySem.Value.ref 38 }, { hash := PySem.PyData.keyHash P (PySem.Str.ofString "_twin_re_1"), key := PySem.Value.str (PySem.Str.ofString "_twin_re_1") 326, val := PySem.Value.ref 43 }, { hash := PySem.PyData.keyHash P (PySem.Str.ofString "_special_chars_map"), key := PySem.Value.str (PySem.Str.ofString "_special_chars_map") 474, val := PySem.Value.ref 45 }, { hash := PySem.PyData.keyHash P (PySem.Str.ofString "escape"), key := PySem.Value.str (PySem.Str.ofString "escape") 481, val := PySem.Value.ref 55 }, { hash := PySem.PyData.keyHash P (PySem.Str.ofString "_translate"), key := PySem.Value.str (PySem.Str.ofString "_translate") 502, val := PySem.Value.ref 62 }, { hash := PySem.PyData.keyHash P (PySem.Str.ofString "_plain_name"), key := PySem.Value.str (PySem.Str.ofString "_plain_name") 513, val := PySem.Value.ref 69 }, { hash := PySem.PyData.keyHash P (PySem.Str.ofString "ABCMeta"), key := PySem.Value.str (PySem.Str.ofString "ABCMeta") 539, val := PySem.Value.ref 86 }, { hash := PySem.PyData.keyHash P (PySem.Str.ofString "_ABCLike"), key := PySem.Value.str (PySem.Str.ofString "_ABCLike") 582, val := PySem.Value.ref 119 }, { hash := PySem.PyData.keyHash P (PySem.Str.ofString "_abc_plain_meta"), key := PySem.Value.str (PySem.Str.ofString "_abc_plain_meta") 589, val := PySem.Value.ref 128 }, { hash := PySem.PyData.keyHash P (PySem.Str.ofString "fspath"), key := PySem.Value.str (PySem.Str.ofString "fspath") 601, val := PySem.Value.ref 135 }, { hash := PySem.PyData.keyHash P (PySem.Str.ofString "_check_arg_types"), key := PySem.Value.str (PySem.Str.ofString "_check_arg_types") 614, val := PySem.Value.ref 142 }, { hash := PySem.PyData.keyHash P (PySem.Str.ofString "_get_sep"), key := PySem.Value.str (PySem.Str.ofString "_get_sep") 623, val := PySem.Value.ref 149 }, { hash := PySem.PyData.keyHash P (PySem.Str.ofString "join"), key := PySem.Value.str (PySem.Str.ofString "join") 634, val := PySem.Value.ref 156 }, { hash := PySem.PyData.keyHash P (PySem.Str.ofString "split"), key := PySem.Value.str (PySem.Str.ofString "split") 645, val := PySem.Value.ref 163 }, { hash := PySem.PyData.keyHash P (PySem.Str.ofString "splitroot"), key := PySem.Value.str (PySem.Str.ofString "splitroot") 654, val := PySem.Value.ref 170 }, { hash := PySem.PyData.keyHash P (PySem.Str.ofString "normpath"), key := PySem.Value.str (PySem.Str.ofString "normpath") 669, val := PySem.Value.ref 177 }, { hash := PySem.PyData.keyHash P (PySem.Str.ofString "_law_item"), key := PySem.Value.str (PySem.Str.ofString "_law_item") 682, val := PySem.Value.ref 184 }, { hash := PySem.PyData.keyHash P (PySem.Str.ofString "_law_rows"), key := PySem.Value.str (PySem.Str.ofString "_law_rows") 688, val := PySem.Value.ref 189 }, { hash := PySem.PyData.keyHash P (PySem.Str.ofString "_law_sign"), key := PySem.Value.str (PySem.Str.ofString "_law_sign") 697, val := PySem.Value.ref 196 }, { hash := PySem.PyData.keyHash P (PySem.Str.ofString "_law_read"), key := PySem.Value.str (PySem.Str.ofString "_law_read") 703, val := PySem.Value.ref 201 }, { hash := PySem.PyData.keyHash P (PySem.Str.ofString "_law_tails"), key := PySem.Value.str (PySem.Str.ofString "_law_tails") 712, val := PySem.Value.ref 208 }, { hash := PySem.PyData.keyHash P (PySem.Str.ofString "law"), key := PySem.Value.str (PySem.Str.ofString "law") 718, val := PySem.Value.ref 213 }] 32 } : PySem.Obj)) ::
(nat_lit 32, ({ cls := PySem.Value.type "tuple", data := PySem.Data.seq #[] } : PySem.Obj)) ::
(nat_lit 34, ({ cls := PySem.Value.type "tuple", data := PySem.Data.seq #[PySem.Value.str (PySem.Str.ofString "k") 285] } : PySem.Obj)) ::
(nat_lit 35, ({ cls := PySem.Value.type "tuple", data := PySem.Data.seq #[] } : PySem.Obj)) ::
(nat_lit 37, ({ cls := PySem.Value.type "code", data := PySem.Data.fields #[PySem.Value.str (PySem.Str.ofString "_wall") 282, PySem.Value.str (PySem.Str.ofString "_wall") 283, PySem.Value.str (PySem.Str.ofString "/claim/cut.py") 284, PySem.Value.int 2 0, PySem.Value.int 1 0, PySem.Value.int 0 0, PySem.Value.int 0 0, PySem.Value.int 3 0, PySem.Value.ref 32, PySem.Value.bool Bool.true, PySem.Value.int 276 0, PySem.Value.ref 33, PySem.Value.none, PySem.Value.ref 34, PySem.Value.ref 35, PySem.Value.ref 36, PySem.Value.int 286 0, PySem.Value.int 2 0, PySem.Value.str (PySem.Str.ofString "/claim/cut.py") 287] } : PySem.Obj)) ::
(nat_lit 38, ({ cls := PySem.Value.type "function", data := PySem.Data.func { name := PySem.Str.ofString "_wall", qualname := PySem.Str.ofString "_wall", params := a38, body := PySem.FuncBody.stmts b38, scope := c38, globals := 3, closure := [], defaults := PySem.Value.none, kwdefaults := PySem.Value.none, pyModule := PySem.Value.str (PySem.Str.ofString "__main__") 164, code := PySem.Value.ref 37 } } : PySem.Obj)) ::
(nat_lit 42, ({ cls := PySem.Value.type "tuple", data := PySem.Data.seq #[PySem.Value.int 14 0, PySem.Value.int 14 0, PySem.Value.int 4 0, PySem.Value.int 1 0, PySem.Value.int 1 0, PySem.Value.int 9 0, PySem.Value.int 0 0, PySem.Value.int 64 0, PySem.Value.int 0 0, PySem.Value.int 1342177280 0, PySem.Value.int 0 0, PySem.Value.int 0 0, PySem.Value.int 0 0, PySem.Value.int 0 0, PySem.Value.int 0 0, PySem.Value.int 17 0, PySem.Value.int 0 0, PySem.Value.int 13 0, PySem.Value.int 11 0, PySem.Value.int 9 0, PySem.Value.int 0 0, PySem.Value.int 64 0, PySem.Value.int 0 0, PySem.Value.int 1342177280 0, PySem.Value.int 0 0, PySem.Value.int 0 0, PySem.Value.int 0 0, PySem.Value.int 0 0, PySem.Value.int 0 0, PySem.Value.int 17 0, PySem.Value.int 1 0, PySem.Value.int 1 0] } : PySem.Obj)) ::
(nat_lit 43, ({ cls := PySem.Value.type "re.Pattern", data := PySem.Data.fields #[PySem.Value.str (PySem.Str.ofString "([&~|])") 290, PySem.Value.int 32 325, PySem.Value.int 1 0, PySem.Value.none, PySem.Value.none, PySem.Value.ref 42, PySem.Value.int 0 0] } : PySem.Obj)) ::
(nat_lit 45, ({ cls := PySem.Value.type "dict", data := PySem.Data.dict #[{ hash := 40, key := PySem.Value.int 40 330, val := PySem.Value.str (PySem.Str.ofString "\\(") 334 }, { hash := 41, key := PySem.Value.int 41 336, val := PySem.Value.str (PySem.Str.ofString "\\)") 340 }, { hash := 91, key := PySem.Value.int 91 342, val := PySem.Value.str (PySem.Str.ofString "\\[") 346 }, { hash := 93, key := PySem.Value.int 93 348, val := PySem.Value.str (PySem.Str.ofString "\\]") 352 }, { hash := 123, key := PySem.Value.int 123 354, val := PySem.Value.str (PySem.Str.ofString "\\{") 358 }, { hash := 125, key := PySem.Value.int 125 360, val := PySem.Value.str (PySem.Str.ofString "\\}") 364 }, { hash := 63, key := PySem.Value.int 63 366, val := PySem.Value.str (PySem.Str.ofString "\\?") 370 }, { hash := 42, key := PySem.Value.int 42 372, val := PySem.Value.str (PySem.Str.ofString "\\*") 376 }, { hash := 43, key := PySem.Value.int 43 378, val := PySem.Value.str (PySem.Str.ofString "\\+") 382 }, { hash := 45, key := PySem.Value.int 45 384, val := PySem.Value.str (PySem.Str.ofString "\\-") 388 }, { hash := 124, key := PySem.Value.int 124 390, val := PySem.Value.str (PySem.Str.ofString "\\|") 394 }, { hash := 94, key := PySem.Value.int 94 396, val := PySem.Value.str (PySem.Str.ofString "\\^") 400 }, { hash := 36, key := PySem.Value.int 36 402, val := PySem.Value.str (PySem.Str.ofString "\\$") 406 }, { hash := 92, key := PySem.Value.int 92 408, val := PySem.Value.str (PySem.Str.ofString "\\\\") 412 }, { hash := 46, key := PySem.Value.int 46 414, val := PySem.Value.str (PySem.Str.ofString "\\.") 418 }, { hash := 38, key := PySem.Value.int 38 420, val := PySem.Value.str (PySem.Str.ofString "\\&") 424 }, { hash := 126, key := PySem.Value.int 126 426, val := PySem.Value.str (PySem.Str.ofString "\\~") 430 }, { hash := 35, key := PySem.Value.int 35 432, val := PySem.Value.str (PySem.Str.ofString "\\#") 436 }, { hash := 32, key := PySem.Value.int 32 438, val := PySem.Value.str (PySem.Str.ofString "\\ ") 442 }, { hash := 9, key := PySem.Value.int 9 444, val := PySem.Value.str (PySem.Str.ofString "\\\t") 448 }, { hash := 10, key := PySem.Value.int 10 450, val := PySem.Value.str (PySem.Str.ofString "\\\n") 454 }, { hash := 13, key := PySem.Value.int 13 456, val := PySem.Value.str (PySem.Str.ofString "\\\x0d") 460 }, { hash := 11, key := PySem.Value.int 11 462, val := PySem.Value.str (PySem.Str.ofString "\\\x0b") 466 }, { hash := 12, key := PySem.Value.int 12 468, val := PySem.Value.str (PySem.Str.ofString "\\\x0c") 472 }] 24 } : PySem.Obj)) ::
(nat_lit 49, ({ cls := PySem.Value.type "tuple", data := PySem.Data.seq #[] } : PySem.Obj)) ::
(nat_lit 51, ({ cls := PySem.Value.type "tuple", data := PySem.Data.seq #[PySem.Value.str (PySem.Str.ofString "pattern") 478] } : PySem.Obj)) ::
(nat_lit 52, ({ cls := PySem.Value.type "tuple", data := PySem.Data.seq #[] } : PySem.Obj)) ::
(nat_lit 54, ({ cls := PySem.Value.type "code", data := PySem.Data.fields #[PySem.Value.str (PySem.Str.ofString "escape") 475, PySem.Value.str (PySem.Str.ofString "escape") 476, PySem.Value.str (PySem.Str.ofString "/claim/cut.py") 477, PySem.Value.int 8 0, PySem.Value.int 1 0, PySem.Value.int 0 0, PySem.Value.int 0 0, PySem.Value.int 3 0, PySem.Value.ref 49, PySem.Value.bool Bool.true, PySem.Value.int 276 0, PySem.Value.ref 50, PySem.Value.none, PySem.Value.ref 51, PySem.Value.ref 52, PySem.Value.ref 53, PySem.Value.int 479 0, PySem.Value.int 8 0, PySem.Value.str (PySem.Str.ofString "/claim/cut.py") 480] } : PySem.Obj)) ::
(nat_lit 55, ({ cls := PySem.Value.type "function", data := PySem.Data.func { name := PySem.Str.ofString "escape", qualname := PySem.Str.ofString "escape", params := a55, body := PySem.FuncBody.stmts b55, scope := c55, globals := 3, closure := [], defaults := PySem.Value.none, kwdefaults := PySem.Value.none, pyModule := PySem.Value.str (PySem.Str.ofString "re") 327, code := PySem.Value.ref 54 } } : PySem.Obj)) ::
(nat_lit 56, ({ cls := PySem.Value.type "tuple", data := PySem.Data.seq #[] } : PySem.Obj)) ::
(nat_lit 58, ({ cls := PySem.Value.type "tuple", data := PySem.Data.seq #[PySem.Value.str (PySem.Str.ofString "pat") 487, PySem.Value.str (PySem.Str.ofString "STAR") 488, PySem.Value.str (PySem.Str.ofString "QUESTION_MARK") 489, PySem.Value.str (PySem.Str.ofString "res") 490, PySem.Value.str (PySem.Str.ofString "add") 491, PySem.Value.str (PySem.Str.ofString "i") 492, PySem.Value.str (PySem.Str.ofString "n") 493, PySem.Value.str (PySem.Str.ofString "c") 494, PySem.Value.str (PySem.Str.ofString "j") 495, PySem.Value.str (PySem.Str.ofString "stuff") 496, PySem.Value.str (PySem.Str.ofString "chunks") 497, PySem.Value.str (PySem.Str.ofString "k") 498, PySem.Value.str (PySem.Str.ofString "chunk") 499] } : PySem.Obj)) ::
(nat_lit 59, ({ cls := PySem.Value.type "tuple", data := PySem.Data.seq #[] } : PySem.Obj)) ::
(nat_lit 61, ({ cls := PySem.Value.type "code", data := PySem.Data.fields #[PySem.Value.str (PySem.Str.ofString "_translate") 484, PySem.Value.str (PySem.Str.ofString "_translate") 485, PySem.Value.str (PySem.Str.ofString "/claim/cut.py") 486, PySem.Value.int 15 0, PySem.Value.int 3 0, PySem.Value.int 0 0, PySem.Value.int 0 0, PySem.Value.int 3 0, PySem.Value.ref 56, PySem.Value.bool Bool.true, PySem.Value.int 276 0, PySem.Value.ref 57, PySem.Value.none, PySem.Value.ref 58, PySem.Value.ref 59, PySem.Value.ref 60, PySem.Value.int 500 0, PySem.Value.int 15 0, PySem.Value.str (PySem.Str.ofString "/claim/cut.py") 501] } : PySem.Obj)) ::
(nat_lit 62, ({ cls := PySem.Value.type "function", data := PySem.Data.func { name := PySem.Str.ofString "_translate", qualname := PySem.Str.ofString "_translate", params := a62, body := PySem.FuncBody.stmts b62, scope := c62, globals := 3, closure := [], defaults := PySem.Value.none, kwdefaults := PySem.Value.none, pyModule := PySem.Value.str (PySem.Str.ofString "cpy313.fnmatch") 482, code := PySem.Value.ref 61 } } : PySem.Obj)) ::
(nat_lit 63, ({ cls := PySem.Value.type "tuple", data := PySem.Data.seq #[] } : PySem.Obj)) ::
(nat_lit 65, ({ cls := PySem.Value.type "tuple", data := PySem.Data.seq #[PySem.Value.str (PySem.Str.ofString "x") 508, PySem.Value.str (PySem.Str.ofString "what") 509, PySem.Value.str (PySem.Str.ofString "kind") 510] } : PySem.Obj)) ::
(nat_lit 66, ({ cls := PySem.Value.type "tuple", data := PySem.Data.seq #[] } : PySem.Obj)) ::
(nat_lit 68, ({ cls := PySem.Value.type "code", data := PySem.Data.fields #[PySem.Value.str (PySem.Str.ofString "_plain_name") 505, PySem.Value.str (PySem.Str.ofString "_plain_name") 506, PySem.Value.str (PySem.Str.ofString "/claim/cut.py") 507, PySem.Value.int 78 0, PySem.Value.int 2 0, PySem.Value.int 0 0, PySem.Value.int 0 0, PySem.Value.int 3 0, PySem.Value.ref 63, PySem.Value.bool Bool.true, PySem.Value.int 276 0, PySem.Value.ref 64, PySem.Value.none, PySem.Value.ref 65, PySem.Value.ref 66, PySem.Value.ref 67, PySem.Value.int 511 0, PySem.Value.int 78 0, PySem.Value.str (PySem.Str.ofString "/claim/cut.py") 512] } : PySem.Obj)) ::
(nat_lit 69, ({ cls := PySem.Value.type "function", data := PySem.Data.func { name := PySem.Str.ofString "_plain_name", qualname := PySem.Str.ofString "_plain_name", params := a69, body := PySem.FuncBody.stmts b69, scope := c69, globals := 3, closure := [], defaults := PySem.Value.none, kwdefaults := PySem.Value.none, pyModule := PySem.Value.str (PySem.Str.ofString "os") 503, code := PySem.Value.ref 68 } } : PySem.Obj)) ::
(nat_lit 70, ({ cls := PySem.Value.type "tuple", data := PySem.Data.seq #[PySem.Value.type "type"] } : PySem.Obj)) ::
(nat_lit 77, ({ cls := PySem.Value.type "tuple", data := PySem.Data.seq #[] } : PySem.Obj)) ::
(nat_lit 79, ({ cls := PySem.Value.type "tuple", data := PySem.Data.seq #[PySem.Value.str (PySem.Str.ofString "cls") 531, PySem.Value.str (PySem.Str.ofString "subclass") 532] } : PySem.Obj)) ::
(nat_lit 80, ({ cls := PySem.Value.type "tuple", data := PySem.Data.seq #[] } : PySem.Obj)) ::
(nat_lit 82, ({ cls := PySem.Value.type "code", data := PySem.Data.fields #[PySem.Value.str (PySem.Str.ofString "register") 528, PySem.Value.str (PySem.Str.ofString "ABCMeta.register") 529, PySem.Value.str (PySem.Str.ofString "/claim/cut.py") 530, PySem.Value.int 86 0, PySem.Value.int 2 0, PySem.Value.int 0 0, PySem.Value.int 0 0, PySem.Value.int 3 0, PySem.Value.ref 77, PySem.Value.bool Bool.true, PySem.Value.int 276 0, PySem.Value.ref 78, PySem.Value.none, PySem.Value.ref 79, PySem.Value.ref 80, PySem.Value.ref 81, PySem.Value.int 533 0, PySem.Value.int 86 0, PySem.Value.str (PySem.Str.ofString "/claim/cut.py") 534] } : PySem.Obj)) ::
(nat_lit 83, ({ cls := PySem.Value.type "function", data := PySem.Data.func { name := PySem.Str.ofString "register", qualname := PySem.Str.ofString "ABCMeta.register", params := a83, body := PySem.FuncBody.stmts b83, scope := c83, globals := 3, closure := [], defaults := PySem.Value.none, kwdefaults := PySem.Value.none, pyModule := PySem.Value.str (PySem.Str.ofString "abc") 514, code := PySem.Value.ref 82 } } : PySem.Obj)) ::
(nat_lit 84, ({ cls := PySem.Value.type "tuple", data := PySem.Data.seq #[] } : PySem.Obj)) ::
(nat_lit 85, ({ cls := PySem.Value.type "dict", data := PySem.Data.dict #[{ hash := PySem.PyData.keyHash P (PySem.Str.ofString "__module__"), key := PySem.Value.str (PySem.Str.ofString "__module__") 523, val := PySem.Value.str (PySem.Str.ofString "abc") 514 }, { hash := PySem.PyData.keyHash P (PySem.Str.ofString "__firstlineno__"), key := PySem.Value.str (PySem.Str.ofString "__firstlineno__") 527, val := PySem.Value.int 84 526 }, { hash := PySem.PyData.keyHash P (PySem.Str.ofString "register"), key := PySem.Value.str (PySem.Str.ofString "register") 535, val := PySem.Value.ref 83 }, { hash := PySem.PyData.keyHash P (PySem.Str.ofString "__static_attributes__"), key := PySem.Value.str (PySem.Str.ofString "__static_attributes__") 536, val := PySem.Value.ref 84 }, { hash := PySem.PyData.keyHash P (PySem.Str.ofString "__doc__"), key := PySem.Value.str (PySem.Str.ofString "__doc__") 537, val := PySem.Value.none }] 2 } : PySem.Obj)) ::
(nat_lit 86, ({ cls := PySem.Value.type "type", data := PySem.Data.cls { name := PySem.Str.ofString "ABCMeta", bases := [PySem.Value.type "type"], mro := [PySem.Value.ref 86, PySem.Value.type "type", PySem.Value.type "object"], ns := 85, qualname := PySem.Str.ofString "ABCMeta", subclasses := [PySem.Value.ref 119] }, slots := #[Option.some (PySem.Value.ref 70), Option.none, Option.some (PySem.Value.str (PySem.Str.ofString "ABCMeta") 516), Option.some (PySem.Value.str (PySem.Str.ofString "ABCMeta") 524), Option.some (PySem.Value.builtin "type.__new__"), Option.some (PySem.Value.bool Bool.true)] } : PySem.Obj)) ::
(nat_lit 89, ({ cls := PySem.Value.type "tuple", data := PySem.Data.seq #[PySem.Value.ref 86] } : PySem.Obj)) ::
(nat_lit 96, ({ cls := PySem.Value.type "tuple", data := PySem.Data.seq #[] } : PySem.Obj)) ::
(nat_lit 98, ({ cls := PySem.Value.type "tuple", data := PySem.Data.seq #[PySem.Value.str (PySem.Str.ofString "cls") 557, PySem.Value.str (PySem.Str.ofString "instance") 558, PySem.Value.str (PySem.Str.ofString "C") 559] } : PySem.Obj)) ::
(nat_lit 99, ({ cls := PySem.Value.type "tuple", data := PySem.Data.seq #[] } : PySem.Obj)) ::
(nat_lit 101, ({ cls := PySem.Value.type "code", data := PySem.Data.fields #[PySem.Value.str (PySem.Str.ofString "__instancecheck__") 554, PySem.Value.str (PySem.Str.ofString "_ABCLike.__instancecheck__") 555, PySem.Value.str (PySem.Str.ofString "/claim/cut.py") 556, PySem.Value.int 91 0, PySem.Value.int 2 0, PySem.Value.int 0 0, PySem.Value.int 0 0, PySem.Value.int 3 0, PySem.Value.ref 96, PySem.Value.bool Bool.true, PySem.Value.int 276 0, PySem.Value.ref 97, PySem.Value.none, PySem.Value.ref 98, PySem.Value.ref 99, PySem.Value.ref 100, PySem.Value.int 560 0, PySem.Value.int 91 0, PySem.Value.str (PySem.Str.ofString "/claim/cut.py") 561] } : PySem.Obj)) ::
(nat_lit 102, ({ cls := PySem.Value.type "function", data := PySem.Data.func { name := PySem.Str.ofString "__instancecheck__", qualname := PySem.Str.ofString "_ABCLike.__instancecheck__", params := a102, body := PySem.FuncBody.stmts b102, scope := c102, globals := 3, closure := [], defaults := PySem.Value.none, kwdefaults := PySem.Value.none, pyModule := PySem.Value.str (PySem.Str.ofString "collections.abc") 540, code := PySem.Value.ref 101 } } : PySem.Obj)) ::
(nat_lit 103, ({ cls := PySem.Value.type "tuple", data := PySem.Data.seq #[] } : PySem.Obj)) ::
(nat_lit 105, ({ cls := PySem.Value.type "tuple", data := PySem.Data.seq #[PySem.Value.str (PySem.Str.ofString "cls") 566, PySem.Value.str (PySem.Str.ofString "C") 567] } : PySem.Obj)) ::
(nat_lit 106, ({ cls := PySem.Value.type "tuple", data := PySem.Data.seq #[] } : PySem.Obj)) ::
(nat_lit 108, ({ cls := PySem.Value.type "code", data := PySem.Data.fields #[PySem.Value.str (PySem.Str.ofString "__subclasscheck__") 563, PySem.Value.str (PySem.Str.ofString "_ABCLike.__subclasscheck__") 564, PySem.Value.str (PySem.Str.ofString "/claim/cut.py") 565, PySem.Value.int 97 0, PySem.Value.int 2 0, PySem.Value.int 0 0, PySem.Value.int 0 0, PySem.Value.int 3 0, PySem.Value.ref 103, PySem.Value.bool Bool.true, PySem.Value.int 276 0, PySem.Value.ref 104, PySem.Value.none, PySem.Value.ref 105, PySem.Value.ref 106, PySem.Value.ref 107, PySem.Value.int 568 0, PySem.Value.int 97 0, PySem.Value.str (PySem.Str.ofString "/claim/cut.py") 569] } : PySem.Obj)) ::
(nat_lit 109, ({ cls := PySem.Value.type "function", data := PySem.Data.func { name := PySem.Str.ofString "__subclasscheck__", qualname := PySem.Str.ofString "_ABCLike.__subclasscheck__", params := a109, body := PySem.FuncBody.stmts b109, scope := c109, globals := 3, closure := [], defaults := PySem.Value.none, kwdefaults := PySem.Value.none, pyModule := PySem.Value.str (PySem.Str.ofString "collections.abc") 540, code := PySem.Value.ref 108 } } : PySem.Obj)) ::
(nat_lit 110, ({ cls := PySem.Value.type "tuple", data := PySem.Data.seq #[] } : PySem.Obj)) ::
(nat_lit 112, ({ cls := PySem.Value.type "tuple", data := PySem.Data.seq #[PySem.Value.str (PySem.Str.ofString "cls") 574, PySem.Value.str (PySem.Str.ofString "subclass") 575] } : PySem.Obj)) ::
(nat_lit 113, ({ cls := PySem.Value.type "tuple", data := PySem.Data.seq #[] } : PySem.Obj)) ::
(nat_lit 115, ({ cls := PySem.Value.type "code", data := PySem.Data.fields #[PySem.Value.str (PySem.Str.ofString "register") 571, PySem.Value.str (PySem.Str.ofString "_ABCLike.register") 572, PySem.Value.str (PySem.Str.ofString "/claim/cut.py") 573, PySem.Value.int 102 0, PySem.Value.int 2 0, PySem.Value.int 0 0, PySem.Value.int 0 0, PySem.Value.int 3 0, PySem.Value.ref 110, PySem.Value.bool Bool.true, PySem.Value.int 276 0, PySem.Value.ref 111, PySem.Value.none, PySem.Value.ref 112, PySem.Value.ref 113, PySem.Value.ref 114, PySem.Value.int 576 0, PySem.Value.int 102 0, PySem.Value.str (PySem.Str.ofString "/claim/cut.py") 577] } : PySem.Obj)) ::
(nat_lit 116, ({ cls := PySem.Value.type "function", data := PySem.Data.func { name := PySem.Str.ofString "register", qualname := PySem.Str.ofString "_ABCLike.register", params := a116, body := PySem.FuncBody.stmts b116, scope := c116, globals := 3, closure := [], defaults := PySem.Value.none, kwdefaults := PySem.Value.none, pyModule := PySem.Value.str (PySem.Str.ofString "collections.abc") 540, code := PySem.Value.ref 115 } } : PySem.Obj)) ::
(nat_lit 117, ({ cls := PySem.Value.type "tuple", data := PySem.Data.seq #[] } : PySem.Obj)) ::
(nat_lit 118, ({ cls := PySem.Value.type "dict", data := PySem.Data.dict #[{ hash := PySem.PyData.keyHash P (PySem.Str.ofString "__module__"), key := PySem.Value.str (PySem.Str.ofString "__module__") 549, val := PySem.Value.str (PySem.Str.ofString "collections.abc") 540 }, { hash := PySem.PyData.keyHash P (PySem.Str.ofString "__firstlineno__"), key := PySem.Value.str (PySem.Str.ofString "__firstlineno__") 553, val := PySem.Value.int 89 552 }, { hash := PySem.PyData.keyHash P (PySem.Str.ofString "__instancecheck__"), key := PySem.Value.str (PySem.Str.ofString "__instancecheck__") 562, val := PySem.Value.ref 102 }, { hash := PySem.PyData.keyHash P (PySem.Str.ofString "__subclasscheck__"), key := PySem.Value.str (PySem.Str.ofString "__subclasscheck__") 570, val := PySem.Value.ref 109 }, { hash := PySem.PyData.keyHash P (PySem.Str.ofString "register"), key := PySem.Value.str (PySem.Str.ofString "register") 578, val := PySem.Value.ref 116 }, { hash := PySem.PyData.keyHash P (PySem.Str.ofString "__static_attributes__"), key := PySem.Value.str (PySem.Str.ofString "__static_attributes__") 579, val := PySem.Value.ref 117 }, { hash := PySem.PyData.keyHash P (PySem.Str.ofString "__doc__"), key := PySem.Value.str (PySem.Str.ofString "__doc__") 580, val := PySem.Value.none }] 2 } : PySem.Obj)) ::
(nat_lit 119, ({ cls := PySem.Value.type "type", data := PySem.Data.cls { name := PySem.Str.ofString "_ABCLike", bases := [PySem.Value.ref 86], mro := [PySem.Value.ref 119, PySem.Value.ref 86, PySem.Value.type "type", PySem.Value.type "object"], ns := 118, qualname := PySem.Str.ofString "_ABCLike" }, slots := #[Option.some (PySem.Value.ref 89), Option.none, Option.some (PySem.Value.str (PySem.Str.ofString "_ABCLike") 542), Option.some (PySem.Value.str (PySem.Str.ofString "_ABCLike") 550), Option.some (PySem.Value.builtin "type.__new__"), Option.some (PySem.Value.bool Bool.true)] } : PySem.Obj)) ::
(nat_lit 122, ({ cls := PySem.Value.type "tuple", data := PySem.Data.seq #[] } : PySem.Obj)) ::
(nat_lit 124, ({ cls := PySem.Value.type "tuple", data := PySem.Data.seq #[PySem.Value.str (PySem.Str.ofString "C") 586] } : PySem.Obj)) ::
(nat_lit 125, ({ cls := PySem.Value.type "tuple", data := PySem.Data.seq #[] } : PySem.Obj)) ::
(nat_lit 127, ({ cls := PySem.Value.type "code", data := PySem.Data.fields #[PySem.Value.str (PySem.Str.ofString "_abc_plain_meta") 583, PySem.Value.str (PySem.Str.ofString "_abc_plain_meta") 584, PySem.Value.str (PySem.Str.ofString "/claim/cut.py") 585, PySem.Value.int 104 0, PySem.Value.int 1 0, PySem.Value.int 0 0, PySem.Value.int 0 0, PySem.Value.int 3 0, PySem.Value.ref 122, PySem.Value.bool Bool.true, PySem.Value.int 276 0, PySem.Value.ref 123, PySem.Value.none, PySem.Value.ref 124, PySem.Value.ref 125, PySem.Value.ref 126, PySem.Value.int 587 0, PySem.Value.int 104 0, PySem.Value.str (PySem.Str.ofString "/claim/cut.py") 588] } : PySem.Obj)) ::
(nat_lit 128, ({ cls := PySem.Value.type "function", data := PySem.Data.func { name := PySem.Str.ofString "_abc_plain_meta", qualname := PySem.Str.ofString "_abc_plain_meta", params := a128, body := PySem.FuncBody.stmts b128, scope := c128, globals := 3, closure := [], defaults := PySem.Value.none, kwdefaults := PySem.Value.none, pyModule := PySem.Value.str (PySem.Str.ofString "collections.abc") 540, code := PySem.Value.ref 127 } } : PySem.Obj)) ::
(nat_lit 129, ({ cls := PySem.Value.type "tuple", data := PySem.Data.seq #[] } : PySem.Obj)) ::
(nat_lit 131, ({ cls := PySem.Value.type "tuple", data := PySem.Data.seq #[PySem.Value.str (PySem.Str.ofString "path") 595, PySem.Value.str (PySem.Str.ofString "kind") 596, PySem.Value.str (PySem.Str.ofString "hook") 597, PySem.Value.str (PySem.Str.ofString "given") 598] } : PySem.Obj)) ::
(nat_lit 132, ({ cls := PySem.Value.type "tuple", data := PySem.Data.seq #[] } : PySem.Obj)) ::
(nat_lit 134, ({ cls := PySem.Value.type "code", data := PySem.Data.fields #[PySem.Value.str (PySem.Str.ofString "fspath") 592, PySem.Value.str (PySem.Str.ofString "fspath") 593, PySem.Value.str (PySem.Str.ofString "/claim/cut.py") 594, PySem.Value.int 108 0, PySem.Value.int 1 0, PySem.Value.int 0 0, PySem.Value.int 0 0, PySem.Value.int 3 0, PySem.Value.ref 129, PySem.Value.bool Bool.true, PySem.Value.int 276 0, PySem.Value.ref 130, PySem.Value.none, PySem.Value.ref 131, PySem.Value.ref 132, PySem.Value.ref 133, PySem.Value.int 599 0, PySem.Value.int 108 0, PySem.Value.str (PySem.Str.ofString "/claim/cut.py") 600] } : PySem.Obj)) ::
(nat_lit 135, ({ cls := PySem.Value.type "function", data := PySem.Data.func { name := PySem.Str.ofString "fspath", qualname := PySem.Str.ofString "fspath", params := a135, body := PySem.FuncBody.stmts b135, scope := c135, globals := 3, closure := [], defaults := PySem.Value.none, kwdefaults := PySem.Value.none, pyModule := PySem.Value.str (PySem.Str.ofString "os") 590, code := PySem.Value.ref 134 } } : PySem.Obj)) ::
(nat_lit 136, ({ cls := PySem.Value.type "tuple", data := PySem.Data.seq #[] } : PySem.Obj)) ::
(nat_lit 138, ({ cls := PySem.Value.type "tuple", data := PySem.Data.seq #[PySem.Value.str (PySem.Str.ofString "funcname") 607, PySem.Value.str (PySem.Str.ofString "args") 608, PySem.Value.str (PySem.Str.ofString "hasstr") 609, PySem.Value.str (PySem.Str.ofString "hasbytes") 610, PySem.Value.str (PySem.Str.ofString "s") 611] } : PySem.Obj)) ::
(nat_lit 139, ({ cls := PySem.Value.type "tuple", data := PySem.Data.seq #[] } : PySem.Obj)) ::
(nat_lit 141, ({ cls := PySem.Value.type "code", data := PySem.Data.fields #[PySem.Value.str (PySem.Str.ofString "_check_arg_types") 604, PySem.Value.str (PySem.Str.ofString "_check_arg_types") 605, PySem.Value.str (PySem.Str.ofString "/claim/cut.py") 606, PySem.Value.int 125 0, PySem.Value.int 1 0, PySem.Value.int 0 0, PySem.Value.int 0 0, PySem.Value.int 7 0, PySem.Value.ref 136, PySem.Value.bool Bool.true, PySem.Value.int 276 0, PySem.Value.ref 137, PySem.Value.none, PySem.Value.ref 138, PySem.Value.ref 139, PySem.Value.ref 140, PySem.Value.int 612 0, PySem.Value.int 125 0, PySem.Value.str (PySem.Str.ofString "/claim/cut.py") 613] } : PySem.Obj)) ::
(nat_lit 142, ({ cls := PySem.Value.type "function", data := PySem.Data.func { name := PySem.Str.ofString "_check_arg_types", qualname := PySem.Str.ofString "_check_arg_types", params := a142, body := PySem.FuncBody.stmts b142, scope := c142, globals := 3, closure := [], defaults := PySem.Value.none, kwdefaults := PySem.Value.none, pyModule := PySem.Value.str (PySem.Str.ofString "cpy313.genericpath") 602, code := PySem.Value.ref 141 } } : PySem.Obj)) ::
(nat_lit 143, ({ cls := PySem.Value.type "tuple", data := PySem.Data.seq #[] } : PySem.Obj)) ::
(nat_lit 145, ({ cls := PySem.Value.type "tuple", data := PySem.Data.seq #[PySem.Value.str (PySem.Str.ofString "path") 620] } : PySem.Obj)) ::
(nat_lit 146, ({ cls := PySem.Value.type "tuple", data := PySem.Data.seq #[] } : PySem.Obj)) ::
(nat_lit 148, ({ cls := PySem.Value.type "code", data := PySem.Data.fields #[PySem.Value.str (PySem.Str.ofString "_get_sep") 617, PySem.Value.str (PySem.Str.ofString "_get_sep") 618, PySem.Value.str (PySem.Str.ofString "/claim/cut.py") 619, PySem.Value.int 137 0, PySem.Value.int 1 0, PySem.Value.int 0 0, PySem.Value.int 0 0, PySem.Value.int 3 0, PySem.Value.ref 143, PySem.Value.bool Bool.true, PySem.Value.int 276 0, PySem.Value.ref 144, PySem.Value.none, PySem.Value.ref 145, PySem.Value.ref 146, PySem.Value.ref 147, PySem.Value.int 621 0, PySem.Value.int 137 0, PySem.Value.str (PySem.Str.ofString "/claim/cut.py") 622] } : PySem.Obj)) ::
(nat_lit 149, ({ cls := PySem.Value.type "function", data := PySem.Data.func { name := PySem.Str.ofString "_get_sep", qualname := PySem.Str.ofString "_get_sep", params := a149, body := PySem.FuncBody.stmts b149, scope := c149, globals := 3, closure := [], defaults := PySem.Value.none, kwdefaults := PySem.Value.none, pyModule := PySem.Value.str (PySem.Str.ofString "cpy313.posixpath") 615, code := PySem.Value.ref 148 } } : PySem.Obj)) ::
(nat_lit 150, ({ cls := PySem.Value.type "tuple", data := PySem.Data.seq #[] } : PySem.Obj)) ::
(nat_lit 152, ({ cls := PySem.Value.type "tuple", data := PySem.Data.seq #[PySem.Value.str (PySem.Str.ofString "a") 627, PySem.Value.str (PySem.Str.ofString "p") 628, PySem.Value.str (PySem.Str.ofString "sep") 629, PySem.Value.str (PySem.Str.ofString "path") 630, PySem.Value.str (PySem.Str.ofString "b") 631] } : PySem.Obj)) ::
(nat_lit 153, ({ cls := PySem.Value.type "tuple", data := PySem.Data.seq #[] } : PySem.Obj)) ::
(nat_lit 155, ({ cls := PySem.Value.type "code", data := PySem.Data.fields #[PySem.Value.str (PySem.Str.ofString "join") 624, PySem.Value.str (PySem.Str.ofString "join") 625, PySem.Value.str (PySem.Str.ofString "/claim/cut.py") 626, PySem.Value.int 142 0, PySem.Value.int 1 0, PySem.Value.int 0 0, PySem.Value.int 0 0, PySem.Value.int 7 0, PySem.Value.ref 150, PySem.Value.bool Bool.true, PySem.Value.int 276 0, PySem.Value.ref 151, PySem.Value.none, PySem.Value.ref 152, PySem.Value.ref 153, PySem.Value.ref 154, PySem.Value.int 632 0, PySem.Value.int 142 0, PySem.Value.str (PySem.Str.ofString "/claim/cut.py") 633] } : PySem.Obj)) ::
(nat_lit 156, ({ cls := PySem.Value.type "function", data := PySem.Data.func { name := PySem.Str.ofString "join", qualname := PySem.Str.ofString "join", params := a156, body := PySem.FuncBody.stmts b156, scope := c156, globals := 3, closure := [], defaults := PySem.Value.none, kwdefaults := PySem.Value.none, pyModule := PySem.Value.str (PySem.Str.ofString "cpy313.posixpath") 615, code := PySem.Value.ref 155 } } : PySem.Obj)) ::
(nat_lit 157, ({ cls := PySem.Value.type "tuple", data := PySem.Data.seq #[] } : PySem.Obj)) ::
(nat_lit 159, ({ cls := PySem.Value.type "tuple", data := PySem.Data.seq #[PySem.Value.str (PySem.Str.ofString "p") 638, PySem.Value.str (PySem.Str.ofString "sep") 639, PySem.Value.str (PySem.Str.ofString "i") 640, PySem.Value.str (PySem.Str.ofString "head") 641, PySem.Value.str (PySem.Str.ofString "tail") 642] } : PySem.Obj)) ::
(nat_lit 160, ({ cls := PySem.Value.type "tuple", data := PySem.Data.seq #[] } : PySem.Obj)) ::
(nat_lit 162, ({ cls := PySem.Value.type "code", data := PySem.Data.fields #[PySem.Value.str (PySem.Str.ofString "split") 635, PySem.Value.str (PySem.Str.ofString "split") 636, PySem.Value.str (PySem.Str.ofString "/claim/cut.py") 637, PySem.Value.int 159 0, PySem.Value.int 1 0, PySem.Value.int 0 0, PySem.Value.int 0 0, PySem.Value.int 3 0, PySem.Value.ref 157, PySem.Value.bool Bool.true, PySem.Value.int 276 0, PySem.Value.ref 158, PySem.Value.none, PySem.Value.ref 159, PySem.Value.ref 160, PySem.Value.ref 161, PySem.Value.int 643 0, PySem.Value.int 159 0, PySem.Value.str (PySem.Str.ofString "/claim/cut.py") 644] } : PySem.Obj)) ::
(nat_lit 163, ({ cls := PySem.Value.type "function", data := PySem.Data.func { name := PySem.Str.ofString "split", qualname := PySem.Str.ofString "split", params := a163, body := PySem.FuncBody.stmts b163, scope := c163, globals := 3, closure := [], defaults := PySem.Value.none, kwdefaults := PySem.Value.none, pyModule := PySem.Value.str (PySem.Str.ofString "cpy313.posixpath") 615, code := PySem.Value.ref 162 } } : PySem.Obj)) ::
(nat_lit 164, ({ cls := PySem.Value.type "tuple", data := PySem.Data.seq #[] } : PySem.Obj)) ::
(nat_lit 166, ({ cls := PySem.Value.type "tuple", data := PySem.Data.seq #[PySem.Value.str (PySem.Str.ofString "p") 649, PySem.Value.str (PySem.Str.ofString "sep") 650, PySem.Value.str (PySem.Str.ofString "empty") 651] } : PySem.Obj)) ::
(nat_lit 167, ({ cls := PySem.Value.type "tuple", data := PySem.Data.seq #[] } : PySem.Obj)) ::
(nat_lit 169, ({ cls := PySem.Value.type "code", data := PySem.Data.fields #[PySem.Value.str (PySem.Str.ofString "splitroot") 646, PySem.Value.str (PySem.Str.ofString "splitroot") 647, PySem.Value.str (PySem.Str.ofString "/claim/cut.py") 648, PySem.Value.int 167 0, PySem.Value.int 1 0, PySem.Value.int 0 0, PySem.Value.int 0 0, PySem.Value.int 3 0, PySem.Value.ref 164, PySem.Value.bool Bool.true, PySem.Value.int 276 0, PySem.Value.ref 165, PySem.Value.none, PySem.Value.ref 166, PySem.Value.ref 167, PySem.Value.ref 168, PySem.Value.int 652 0, PySem.Value.int 167 0, PySem.Value.str (PySem.Str.ofString "/claim/cut.py") 653] } : PySem.Obj)) ::
(nat_lit 170, ({ cls := PySem.Value.type "function", data := PySem.Data.func { name := PySem.Str.ofString "splitroot", qualname := PySem.Str.ofString "splitroot", params := a170, body := PySem.FuncBody.stmts b170, scope := c170, globals := 3, closure := [], defaults := PySem.Value.none, kwdefaults := PySem.Value.none, pyModule := PySem.Value.str (PySem.Str.ofString "cpy313.posixpath") 615, code := PySem.Value.ref 169 } } : PySem.Obj)) ::
(nat_lit 171, ({ cls := PySem.Value.type "tuple", data := PySem.Data.seq #[] } : PySem.Obj)) ::
(nat_lit 173, ({ cls := PySem.Value.type "tuple", data := PySem.Data.seq #[PySem.Value.str (PySem.Str.ofString "path") 658, PySem.Value.str (PySem.Str.ofString "sep") 659, PySem.Value.str (PySem.Str.ofString "dot") 660, PySem.Value.str (PySem.Str.ofString "dotdot") 661, PySem.Value.str (PySem.Str.ofString "_") 662, PySem.Value.str (PySem.Str.ofString "initial_slashes") 663, PySem.Value.str (PySem.Str.ofString "comps") 664, PySem.Value.str (PySem.Str.ofString "new_comps") 665, PySem.Value.str (PySem.Str.ofString "comp") 666] } : PySem.Obj)) ::
(nat_lit 174, ({ cls := PySem.Value.type "tuple", data := PySem.Data.seq #[] } : PySem.Obj)) ::
(nat_lit 176, ({ cls := PySem.Value.type "code", data := PySem.Data.fields #[PySem.Value.str (PySem.Str.ofString "normpath") 655, PySem.Value.str (PySem.Str.ofString "normpath") 656, PySem.Value.str (PySem.Str.ofString "/claim/cut.py") 657, PySem.Value.int 181 0, PySem.Value.int 1 0, PySem.Value.int 0 0, PySem.Value.int 0 0, PySem.Value.int 3 0, PySem.Value.ref 171, PySem.Value.bool Bool.true, PySem.Value.int 276 0, PySem.Value.ref 172, PySem.Value.none, PySem.Value.ref 173, PySem.Value.ref 174, PySem.Value.ref 175, PySem.Value.int 667 0, PySem.Value.int 181 0, PySem.Value.str (PySem.Str.ofString "/claim/cut.py") 668] } : PySem.Obj)) ::
(nat_lit 177, ({ cls := PySem.Value.type "function", data := PySem.Data.func { name := PySem.Str.ofString "normpath", qualname := PySem.Str.ofString "normpath", params := a177, body := PySem.FuncBody.stmts b177, scope := c177, globals := 3, closure := [], defaults := PySem.Value.none, kwdefaults := PySem.Value.none, pyModule := PySem.Value.str (PySem.Str.ofString "cpy313.posixpath") 615, code := PySem.Value.ref 176 } } : PySem.Obj)) ::
(nat_lit 178, ({ cls := PySem.Value.type "tuple", data := PySem.Data.seq #[] } : PySem.Obj)) ::
(nat_lit 180, ({ cls := PySem.Value.type "tuple", data := PySem.Data.seq #[PySem.Value.str (PySem.Str.ofString "x") 675, PySem.Value.str (PySem.Str.ofString "first") 676, PySem.Value.str (PySem.Str.ofString "kind") 677, PySem.Value.str (PySem.Str.ofString "dress") 678, PySem.Value.str (PySem.Str.ofString "sign") 679] } : PySem.Obj)) ::
(nat_lit 181, ({ cls := PySem.Value.type "tuple", data := PySem.Data.seq #[] } : PySem.Obj)) ::
(nat_lit 183, ({ cls := PySem.Value.type "code", data := PySem.Data.fields #[PySem.Value.str (PySem.Str.ofString "_law_item") 672, PySem.Value.str (PySem.Str.ofString "_law_item") 673, PySem.Value.str (PySem.Str.ofString "/claim/cut.py") 674, PySem.Value.int 207 0, PySem.Value.int 2 0, PySem.Value.int 0 0, PySem.Value.int 0 0, PySem.Value.int 3 0, PySem.Value.ref 178, PySem.Value.bool Bool.true, PySem.Value.int 276 0, PySem.Value.ref 179, PySem.Value.none, PySem.Value.ref 180, PySem.Value.ref 181, PySem.Value.ref 182, PySem.Value.int 680 0, PySem.Value.int 207 0, PySem.Value.str (PySem.Str.ofString "/claim/cut.py") 681] } : PySem.Obj)) ::
(nat_lit 184, ({ cls := PySem.Value.type "function", data := PySem.Data.func { name := PySem.Str.ofString "_law_item", qualname := PySem.Str.ofString "_law_item", params := a184, body := PySem.FuncBody.stmts b184, scope := c184, globals := 3, closure := [], defaults := PySem.Value.none, kwdefaults := PySem.Value.none, pyModule := PySem.Value.str (PySem.Str.ofString "law_rx0110_02") 670, code := PySem.Value.ref 183 } } : PySem.Obj)) ::
(nat_lit 185, ({ cls := PySem.Value.type "tuple", data := PySem.Data.seq #[] } : PySem.Obj)) ::
(nat_lit 188, ({ cls := PySem.Value.type "code", data := PySem.Data.fields #[PySem.Value.str (PySem.Str.ofString "_law_rows") 683, PySem.Value.str (PySem.Str.ofString "_law_rows") 684, PySem.Value.str (PySem.Str.ofString "/claim/cut.py") 685, PySem.Value.int 225 0, PySem.Value.int 1 0, PySem.Value.int 0 0, PySem.Value.int 0 0, PySem.Value.int 3 0, PySem.Value.ref 185, PySem.Value.bool Bool.true, PySem.Value.int 276 0, PySem.Value.ref 186, PySem.Value.none, PySem.Value.none, PySem.Value.none, PySem.Value.ref 187, PySem.Value.int 686 0, PySem.Value.int 225 0, PySem.Value.str (PySem.Str.ofString "/claim/cut.py") 687] } : PySem.Obj)) ::
(nat_lit 189, ({ cls := PySem.Value.type "function", data := PySem.Data.func { name := PySem.Str.ofString "_law_rows", qualname := PySem.Str.ofString "_law_rows", params := a189, body := PySem.FuncBody.stmts b189, scope := c189, globals := 3, closure := [], defaults := PySem.Value.none, kwdefaults := PySem.Value.none, pyModule := PySem.Value.str (PySem.Str.ofString "law_rx0110_02") 670, code := PySem.Value.ref 188 } } : PySem.Obj)) ::
(nat_lit 190, ({ cls := PySem.Value.type "tuple", data := PySem.Data.seq #[] } : PySem.Obj)) ::
(nat_lit 192, ({ cls := PySem.Value.type "tuple", data := PySem.Data.seq #[PySem.Value.str (PySem.Str.ofString "item") 692, PySem.Value.str (PySem.Str.ofString "marks") 693, PySem.Value.str (PySem.Str.ofString "k") 694] } : PySem.Obj)) ::
(nat_lit 193, ({ cls := PySem.Value.type "tuple", data := PySem.Data.seq #[] } : PySem.Obj)) ::
(nat_lit 195, ({ cls := PySem.Value.type "code", data := PySem.Data.fields #[PySem.Value.str (PySem.Str.ofString "_law_sign") 689, PySem.Value.str (PySem.Str.ofString "_law_sign") 690, PySem.Value.str (PySem.Str.ofString "/claim/cut.py") 691, PySem.Value.int 236 0, PySem.Value.int 1 0, PySem.Value.int 0 0, PySem.Value.int 0 0, PySem.Value.int 3 0, PySem.Value.ref 190, PySem.Value.bool Bool.true, PySem.Value.int 276 0, PySem.Value.ref 191, PySem.Value.none, PySem.Value.ref 192, PySem.Value.ref 193, PySem.Value.ref 194, PySem.Value.int 695 0, PySem.Value.int 236 0, PySem.Value.str (PySem.Str.ofString "/claim/cut.py") 696] } : PySem.Obj)) ::
(nat_lit 196, ({ cls := PySem.Value.type "function", data := PySem.Data.func { name := PySem.Str.ofString "_law_sign", qualname := PySem.Str.ofString "_law_sign", params := a196, body := PySem.FuncBody.stmts b196, scope := c196, globals := 3, closure := [], defaults := PySem.Value.none, kwdefaults := PySem.Value.none, pyModule := PySem.Value.str (PySem.Str.ofString "law_rx0110_02") 670, code := PySem.Value.ref 195 } } : PySem.Obj)) ::
(nat_lit 197, ({ cls := PySem.Value.type "tuple", data := PySem.Data.seq #[] } : PySem.Obj)) ::
(nat_lit 200, ({ cls := PySem.Value.type "code", data := PySem.Data.fields #[PySem.Value.str (PySem.Str.ofString "_law_read") 698, PySem.Value.str (PySem.Str.ofString "_law_read") 699, PySem.Value.str (PySem.Str.ofString "/claim/cut.py") 700, PySem.Value.int 256 0, PySem.Value.int 1 0, PySem.Value.int 0 0, PySem.Value.int 0 0, PySem.Value.int 3 0, PySem.Value.ref 197, PySem.Value.bool Bool.true, PySem.Value.int 276 0, PySem.Value.ref 198, PySem.Value.none, PySem.Value.none, PySem.Value.none, PySem.Value.ref 199, PySem.Value.int 701 0, PySem.Value.int 256 0, PySem.Value.str (PySem.Str.ofString "/claim/cut.py") 702] } : PySem.Obj)) ::
(nat_lit 201, ({ cls := PySem.Value.type "function", data := PySem.Data.func { name := PySem.Str.ofString "_law_read", qualname := PySem.Str.ofString "_law_read", params := a201, body := PySem.FuncBody.stmts b201, scope := c201, globals := 3, closure := [], defaults := PySem.Value.none, kwdefaults := PySem.Value.none, pyModule := PySem.Value.str (PySem.Str.ofString "law_rx0110_02") 670, code := PySem.Value.ref 200 } } : PySem.Obj)) ::
(nat_lit 202, ({ cls := PySem.Value.type "tuple", data := PySem.Data.seq #[] } : PySem.Obj)) ::
(nat_lit 204, ({ cls := PySem.Value.type "tuple", data := PySem.Data.seq #[PySem.Value.str (PySem.Str.ofString "path") 707, PySem.Value.str (PySem.Str.ofString "tails") 708, PySem.Value.str (PySem.Str.ofString "tail") 709] } : PySem.Obj)) ::
(nat_lit 205, ({ cls := PySem.Value.type "tuple", data := PySem.Data.seq #[] } : PySem.Obj)) ::
(nat_lit 207, ({ cls := PySem.Value.type "code", data := PySem.Data.fields #[PySem.Value.str (PySem.Str.ofString "_law_tails") 704, PySem.Value.str (PySem.Str.ofString "_law_tails") 705, PySem.Value.str (PySem.Str.ofString "/claim/cut.py") 706, PySem.Value.int 258 0, PySem.Value.int 1 0, PySem.Value.int 0 0, PySem.Value.int 0 0, PySem.Value.int 3 0, PySem.Value.ref 202, PySem.Value.bool Bool.true, PySem.Value.int 276 0, PySem.Value.ref 203, PySem.Value.none, PySem.Value.ref 204, PySem.Value.ref 205, PySem.Value.ref 206, PySem.Value.int 710 0, PySem.Value.int 258 0, PySem.Value.str (PySem.Str.ofString "/claim/cut.py") 711] } : PySem.Obj)) ::
(nat_lit 208, ({ cls := PySem.Value.type "function", data := PySem.Data.func { name := PySem.Str.ofString "_law_tails", qualname := PySem.Str.ofString "_law_tails", params := a208, body := PySem.FuncBody.stmts b208, scope := c208, globals := 3, closure := [], defaults := PySem.Value.none, kwdefaults := PySem.Value.none, pyModule := PySem.Value.str (PySem.Str.ofString "law_rx0110_02") 670, code := PySem.Value.ref 207 } } : PySem.Obj)) ::
(nat_lit 209, ({ cls := PySem.Value.type "tuple", data := PySem.Data.seq #[] } : PySem.Obj)) ::
(nat_lit 212, ({ cls := PySem.Value.type "code", data := PySem.Data.fields #[PySem.Value.str (PySem.Str.ofString "law") 713, PySem.Value.str (PySem.Str.ofString "law") 714, PySem.Value.str (PySem.Str.ofString "/claim/cut.py") 715, PySem.Value.int 264 0, PySem.Value.int 1 0, PySem.Value.int 0 0, PySem.Value.int 0 0, PySem.Value.int 3 0, PySem.Value.ref 209, PySem.Value.bool Bool.true, PySem.Value.int 276 0, PySem.Value.ref 210, PySem.Value.none, PySem.Value.none, PySem.Value.none, PySem.Value.ref 211, PySem.Value.int 716 0, PySem.Value.int 264 0, PySem.Value.str (PySem.Str.ofString "/claim/cut.py") 717] } : PySem.Obj)) ::
(nat_lit 213, ({ cls := PySem.Value.type "function", data := PySem.Data.func { name := PySem.Str.ofString "law", qualname := PySem.Str.ofString "law", params := a213, body := PySem.FuncBody.stmts b213, scope := c213, globals := 3, closure := [], defaults := PySem.Value.none, kwdefaults := PySem.Value.none, pyModule := PySem.Value.str (PySem.Str.ofString "law_rx0110_02") 670, code := PySem.Value.ref 212 } } : PySem.Obj)) :: []
noncomputable def hdAs : List PySem.Addr := 2 :: 3 :: 32 :: 34 :: 35 :: 37 :: 38 :: 42 :: 43 :: 45 :: 49 :: 51 :: 52 :: 54 :: 55 :: 56 :: 58 :: 59 :: 61 :: 62 :: 63 :: 65 :: 66 :: 68 :: 69 :: 70 :: 77 :: 79 :: 80 :: 82 :: 83 :: 84 :: 85 :: 86 :: 89 :: 96 :: 98 :: 99 :: 101 :: 102 :: 103 :: 105 :: 106 :: 108 :: 109 :: 110 :: 112 :: 113 :: 115 :: 116 :: 117 :: 118 :: 119 :: 122 :: 124 :: 125 :: 127 :: 128 :: 129 :: 131 :: 132 :: 134 :: 135 :: 136 :: 138 :: 139 :: 141 :: 142 :: 143 :: 145 :: 146 :: 148 :: 149 :: 150 :: 152 :: 153 :: 155 :: 156 :: 157 :: 159 :: 160 :: 162 :: 163 :: 164 :: 166 :: 167 :: 169 :: 170 :: 171 :: 173 :: 174 :: 176 :: 177 :: 178 :: 180 :: 181 :: 183 :: 184 :: 185 :: 188 :: 189 :: 190 :: 192 :: 193 :: 195 :: 196 :: 197 :: 200 :: 201 :: 202 :: 204 :: 205 :: 207 :: 208 :: 209 :: 212 :: 213 :: []

/-! the top's run over a heap as a tree, cut in two ahead of the statement that asks the world -/
noncomputable def topRunT (tb : String → Option Builtin) (p : Program) (w : World) (n₀ : Nat) (ann : Option Value) : Nat → SharedT → Thread → Option SharedT
  | 0, _, _ => none
  | n + 1, s, t => match through t with
    | true => some s
    | false => match stepOk n₀ ann t with
      | false => none
      | true => match stepT (denote tb) p w s t with
        | some (s', t') => topRunT tb p w n₀ ann n s' t'
        | none => none
noncomputable def topGoT (tb : String → Option Builtin) (p : Program) (w : World) (n₀ : Nat) (ann : Option Value) : Nat → SharedT → Thread → Option (SharedT × Thread)
  | 0, s, t => some (s, t)
  | n + 1, s, t => match through t with
    | true => none
    | false => match stepOk n₀ ann t with
      | false => none
      | true => match stepT (denote tb) p w s t with
        | some (s', t') => topGoT tb p w n₀ ann n s' t'
        | none => none
section
variable {tb : String → Option Builtin} {p : Program} {w : World} {n₀ : Nat} {ann : Option Value}
theorem topRun_ofT : ∀ {n : Nat} {s s' : SharedT} {t : Thread}, topRunT tb p w n₀ ann n s t = some s' → topRun tb p w n₀ ann n s.abs t = some s'.abs
  | 0, _, _, _, h => by cases h
  | n + 1, s, s', t, h => by
    unfold topRunT at h
    unfold topRun
    cases ht : through t with
    | true => rw [ht] at h; cases h; rfl
    | false =>
      rw [ht] at h
      cases hk : stepOk n₀ ann t with
      | false => rw [hk] at h; cases h
      | true =>
        rw [hk] at h
        cases hs : stepT (denote tb) p w s t with
        | none => rw [hs] at h; cases h
        | some r => obtain ⟨s₂, t₂⟩ := r; rw [hs] at h; rw [stepT_spec hs]; exact topRun_ofT h
theorem topGo_ofT : ∀ {n : Nat} {s s' : SharedT} {t t' : Thread}, topGoT tb p w n₀ ann n s t = some (s', t') → topGo tb p w n₀ ann n s.abs t = some (s'.abs, t')
  | 0, _, _, _, _, h => by cases h; rfl
  | n + 1, s, s', t, t', h => by
    unfold topGoT at h
    unfold topGo
    cases ht : through t with
    | true => rw [ht] at h; cases h
    | false =>
      rw [ht] at h
      cases hk : stepOk n₀ ann t with
      | false => rw [hk] at h; cases h
      | true =>
        rw [hk] at h
        cases hs : stepT (denote tb) p w s t with
        | none => rw [hs] at h; cases h
        | some r => obtain ⟨s₂, t₂⟩ := r; rw [hs] at h; rw [stepT_spec hs]; exact topGo_ofT h
end
noncomputable def impRunT (tb : String → Option Builtin) (p : Program) (w : World) : Nat → SharedT → Thread → Option SharedT
  | 0, _, _ => none
  | n + 1, s, t => match t.atExitBegin with
    | some [] => some s
    | some (_ :: _) => none
    | none => match stepT (denote tb) p w s t with
      | some (s', t') => impRunT tb p w n s' t'
      | none => none
theorem impRun_ofT {tb : String → Option Builtin} {p : Program} {w : World} : ∀ {n : Nat} {s s' : SharedT} {t : Thread}, impRunT tb p w n s t = some s' → importEnds tb p w n s.abs t = some s'.abs
  | 0, _, _, _, h => by cases h
  | n + 1, s, s', t, h => by
    unfold impRunT at h
    unfold importEnds
    cases ht : t.atExitBegin with
    | some l =>
      rw [ht] at h
      cases l with
      | nil => cases h; rfl
      | cons a l => cases h
    | none =>
      rw [ht] at h
      cases hs : stepT (denote tb) p w s t with
      | none => rw [hs] at h; cases h
      | some r => obtain ⟨s₂, t₂⟩ := r; rw [hs] at h; dsimp only; rw [stepT_spec hs]; exact impRun_ofT h
noncomputable def ofL : List Obj → Nat → BT → BT
  | [], _, t => t
  | o :: l, n, t => ofL l (n + 1) (t.ins n o)
noncomputable abbrev treeOf (l : List Obj) : BT := ofL l 0 .nil
noncomputable abbrev stT (l : List Obj) (n k : Nat) (os : OsState) : SharedT := ⟨treeOf l, n, {}, #[], {}, k, os⟩
noncomputable def topEnd (p q : Program) (loose : List Str) (Xt : Shared → Bool) {α : Type} (Yf : Shared → α) (h₀ : Heap) (s₁ : Shared) :=
  match staticsOk (importedModules p.main.body) h₀ s₁.heap && namesBound p s₁.heap && gensDone s₁ && laidKept h₀ s₁.heap with
  | true => some (openSeen q loose (importedModules p.main.body) Xt true s₁, Yf s₁)
  | false => none
theorem left_of_cut {p q : Program} {loose : List Str} {Xt : Shared → Bool} {α : Type} {Yf : Shared → α} {Ya : World → α} {I A B C D : Params → List Obj} {m₀ ma mb mc ki k₀ ka kb kc ni n1 n2 n3 N : Nat} {ann : Option Value} {env : Env} {c : Code} {q0 q1 q2 q3 q4 : Pos} {l1 l2 l3 b : List Stmt} (hb : l1 ++ (l2 ++ l3) = b)
    (start_ : (start (opening p)).1 = ⟨⟨#[], {}⟩, #[], {}, ki, (start (opening p)).1.os⟩) (le : Nat.ble ni (n1 + (1 + (n2 + (n3 + N)))) = true)
    (open_ : ∀ w : World, impRunT treeTable (opening p) w ni (stT [] 0 ki (start (opening p)).1.os) (start (opening p)).2 = some (stT (I w.params) m₀ k₀ (start (opening p)).1.os))
    (fence : ∀ (w : World) (os : OsState), (fenceModules? p (stT (I w.params) m₀ k₀ os).abs).map (fun s => (s.heap, s.gens, s.drawn, s.toks)) = some (absHeap (treeOf (A w.params)) m₀ {}, #[], {}, k₀))
    (size : ∀ w : World, ((absHeap (treeOf (A w.params)) m₀ {}).isNs mainGlobals, (absHeap (treeOf (A w.params)) m₀ {}).nsMap mainGlobals "__annotations__") = (true, ann))
    (pre : ∀ (w : World) (os : OsState), topGoT treeTable p w m₀ ann n1 (stT (A w.params) m₀ k₀ os) (topStub p) = some (stT (B w.params) ma ka os, ⟨denote treeTable (.body b env), c, q1, [topFrame q0]⟩))
    (block : ∀ (w : World) (os : OsState), segRunT treeTable p w m₀ ann 1 1 (stT (B w.params) ma ka os) (blockOf b env c q1 [topFrame q0]) = some (.next, stT (B w.params) ma ka os, c, q2))
    (run : ∀ (w : World) (os : OsState), segRunT treeTable p w m₀ ann 1 n2 (stT (B w.params) ma ka os) (piecesOf l1 env c q2 [topFrame q0]) = some (.next, stT (C w.params) mb kb os, c, q3))
    (ask : ∀ (w : World) (os : OsState), segRunT treeTable p w m₀ ann 1 n3 (stT (C w.params) mb kb os) (piecesOf l2 env c q3 [topFrame q0]) = some (.next, stT (D w.params) mc kc os, c, q4))
    (ends : ∀ (w : World) (os : OsState), (topRunT treeTable p w m₀ ann N (stT (D w.params) mc kc os) (restOf l3 env c q4 [topFrame q0])).bind (fun s₁ => topEnd p q loose Xt Yf (absHeap (treeOf (A w.params)) m₀ {}) s₁.abs) = some (openGood q loose, Ya w)) :
    LeftO p q loose Xt Yf Ya (n1 + (1 + (n2 + (n3 + N)))) := fun w => by
  subst hb
  have e1 := impRun_ofT (open_ w)
  have e0 : (stT [] 0 ki (start (opening p)).1.os).abs = (start (opening p)).1 := start_.symm
  rw [e0] at e1
  have e2 := importEnds_mono (n1 + (1 + (n2 + (n3 + N))) - ni) _ _ _ _ e1
  rw [show ni + (n1 + (1 + (n2 + (n3 + N))) - ni) = n1 + (1 + (n2 + (n3 + N))) by have := Nat.le_of_ble_eq_true le; omega] at e2
  obtain ⟨⟨h, gs, d, k, os⟩, e, e'⟩ := Option.map_eq_some_iff.mp (fence w (start (opening p)).1.os)
  obtain ⟨rfl, rfl, rfl, rfl⟩ : h = absHeap (treeOf (A w.params)) m₀ {} ∧ gs = #[] ∧ d = {} ∧ k = k₀ := by simpa using e'
  obtain ⟨z1, z2⟩ : _ ∧ _ := by simpa only [Prod.mk.injEq] using size w
  obtain ⟨s₁, hs, he⟩ := Option.bind_eq_some_iff.mp (ends w os)
  have r := go_top (topGo_ofT (pre w os)) (piece_block (segRun_of (block w os)) (piece_app (segRun_of (run w os)) (piece_app (segRun_of (ask w os)) (topRun_ofT hs))))
  have sz : (absHeap (treeOf (A w.params)) m₀ {}).objs.size = m₀ := absHeap_size _ _ _
  unfold openEnds fencedOpening
  rw [e2]
  show ((fenceModules? p _).bind (topFrom treeTable p w _)).map _ = _
  rw [e]
  show (topFrom treeTable p w _ _).map _ = _
  unfold topFrom
  dsimp only
  rw [z1, sz, z2]
  show ((topRun treeTable p w m₀ ann _ (stT (A w.params) m₀ k os).abs (topStub p)).bind _).map _ = _
  rw [r]
  unfold topEnd at he
  show (match staticsOk (importedModules p.main.body) _ s₁.abs.heap && namesBound p s₁.abs.heap && gensDone s₁.abs && laidKept _ s₁.abs.heap with | true => some s₁.abs | false => none).map _ = _
  split at he
  · exact he
  · cases he

/-! the states at which the top's run is cut -/
noncomputable def hob (P : PySem.Params) (a : Nat) : PySem.Obj := ((hd.heap_39 P).lookup a).getD default
noncomputable def t0L (P : PySem.Params) : List PySem.Obj := [PySem.W.boot_o_0 P,
({ cls := PySem.Value.type "dict", data := PySem.Data.dict #[{ hash := PySem.PyData.keyHash P (PySem.Str.ofString "builtins"), key := PySem.Value.str (PySem.Str.ofString "builtins") 162, val := PySem.Value.ref 4 }, { hash := PySem.PyData.keyHash P (PySem.Str.ofString "__main__"), key := PySem.Value.str (PySem.Str.ofString "__main__") 163, val := PySem.Value.ref 5 }, { hash := PySem.PyData.keyHash P (PySem.Str.ofString "_sre"), key := PySem.Value.str (PySem.Str.ofString "_sre") 244, val := PySem.Value.ref 12 }] 3 } : PySem.Obj),
({ cls := PySem.Value.none, data := PySem.Data.dict #[{ hash := PySem.PyData.keyHash P (PySem.Str.ofString "\x69mport.loaded._sre"), key := PySem.Value.str (PySem.Str.ofString "\x69mport.loaded._sre") 183, val := PySem.Value.bool Bool.true }, { hash := PySem.PyData.keyHash P (PySem.Str.ofString "class._frozen_importlib.BuiltinImporter"), key := PySem.Value.str (PySem.Str.ofString "class._frozen_importlib.BuiltinImporter") 185, val := PySem.Value.ref 14 }, { hash := PySem.PyData.keyHash P (PySem.Str.ofString "watched.\x69mport"), key := PySem.Value.str (PySem.Str.ofString "watched.\x69mport") 206, val := PySem.Value.ref 18 }, { hash := PySem.PyData.keyHash P (PySem.Str.ofString "class._frozen_importlib.ModuleSpec"), key := PySem.Value.str (PySem.Str.ofString "class._frozen_importlib.ModuleSpec") 216, val := PySem.Value.ref 22 }, { hash := PySem.PyData.keyHash P (PySem.Str.ofString "sys.modules.booked-epoch"), key := PySem.Value.str (PySem.Str.ofString "sys.modules.booked-epoch") 245, val := PySem.Value.int 3 0 }, { hash := PySem.PyData.keyHash P (PySem.Str.ofString "\x69mport.later-laid._sre"), key := PySem.Value.str (PySem.Str.ofString "\x69mport.later-laid._sre") 270, val := PySem.Value.bool Bool.true }, { hash := PySem.PyData.keyHash P (PySem.Str.ofString "watched.library"), key := PySem.Value.str (PySem.Str.ofString "watched.library") 272, val := PySem.Value.ref 27 }, { hash := PySem.PyData.keyHash P (PySem.Str.ofString "watched.library-objects"), key := PySem.Value.str (PySem.Str.ofString "watched.library-objects") 0, val := PySem.Value.str { cps := #[12] } 0 }, { hash := PySem.PyData.keyHash P (PySem.Str.ofString "watched.library-deep._sre"), key := PySem.Value.str (PySem.Str.ofString "watched.library-deep._sre") 273, val := PySem.Value.str { cps := #[4, 0, 0, 11, 4, 0, 0, 11, 4, 0, 0, 3, 4, 0, 0, 11, 8, 4, 100, 105, 99, 116, 2] } 0 }] 9 } : PySem.Obj),
({ cls := PySem.Value.type "dict", data := PySem.Data.dict #[{ hash := PySem.PyData.keyHash P (PySem.Str.ofString "__name__"), key := PySem.Value.str (PySem.Str.ofString "__name__") 165, val := PySem.Value.str (PySem.Str.ofString "__main__") 164 }, { hash := PySem.PyData.keyHash P (PySem.Str.ofString "__doc__"), key := PySem.Value.str (PySem.Str.ofString "__doc__") 166, val := PySem.Value.none }, { hash := PySem.PyData.keyHash P (PySem.Str.ofString "__package__"), key := PySem.Value.str (PySem.Str.ofString "__package__") 167, val := PySem.Value.none }, { hash := PySem.PyData.keyHash P (PySem.Str.ofString "__loader__"), key := PySem.Value.str (PySem.Str.ofString "__loader__") 168, val := PySem.Value.builtin "__main__.__loader__#opaque" }, { hash := PySem.PyData.keyHash P (PySem.Str.ofString "__spec__"), key := PySem.Value.str (PySem.Str.ofString "__spec__") 169, val := PySem.Value.none }, { hash := PySem.PyData.keyHash P (PySem.Str.ofString "__annotations__"), key := PySem.Value.str (PySem.Str.ofString "__annotations__") 170, val := PySem.Value.ref 6 }, { hash := PySem.PyData.keyHash P (PySem.Str.ofString "__builtins__"), key := PySem.Value.str (PySem.Str.ofString "__builtins__") 171, val := PySem.Value.ref 4 }, { hash := PySem.PyData.keyHash P (PySem.Str.ofString "__file__"), key := PySem.Value.str (PySem.Str.ofString "__file__") 173, val := PySem.Value.str (PySem.Str.ofString "/claim/cut.py") 172 }, { hash := PySem.PyData.keyHash P (PySem.Str.ofString "__cached__"), key := PySem.Value.str (PySem.Str.ofString "__cached__") 174, val := PySem.Value.none }, { hash := PySem.PyData.keyHash P (PySem.Str.ofString "_sre"), key := PySem.Value.str (PySem.Str.ofString "_sre") 275, val := PySem.Value.ref 12 }] 10 } : PySem.Obj),
PySem.W.boot_o_4 P,
PySem.W.boot_o_5 P,
PySem.W.boot_o_6 P,
PySem.W.boot_o_7 P,
PySem.W.boot_o_8 P,
PySem.W.boot_o_9 P,
PySem.W.boot_o_10 P,
({ cls := PySem.Value.type "dict", data := PySem.Data.dict #[{ hash := PySem.PyData.keyHash P (PySem.Str.ofString "__name__"), key := PySem.Value.str (PySem.Str.ofString "__name__") 247, val := PySem.Value.str (PySem.Str.ofString "_sre") 246 }, { hash := PySem.PyData.keyHash P (PySem.Str.ofString "__doc__"), key := PySem.Value.str (PySem.Str.ofString "__doc__") 248, val := PySem.Value.none }, { hash := PySem.PyData.keyHash P (PySem.Str.ofString "__package__"), key := PySem.Value.str (PySem.Str.ofString "__package__") 250, val := PySem.Value.str (PySem.Str.ofString "") 249 }, { hash := PySem.PyData.keyHash P (PySem.Str.ofString "__loader__"), key := PySem.Value.str (PySem.Str.ofString "__loader__") 251, val := PySem.Value.builtin "off-the-table:_sre.__loader__:shared#opaque" }, { hash := PySem.PyData.keyHash P (PySem.Str.ofString "__spec__"), key := PySem.Value.str (PySem.Str.ofString "__spec__") 252, val := PySem.Value.builtin "off-the-table:_sre.__spec__:shared#opaque" }, { hash := PySem.PyData.keyHash P (PySem.Str.ofString "compile"), key := PySem.Value.str (PySem.Str.ofString "compile") 253, val := PySem.Value.builtin "_sre.compile" }, { hash := PySem.PyData.keyHash P (PySem.Str.ofString "template"), key := PySem.Value.str (PySem.Str.ofString "template") 254, val := PySem.Value.builtin "off-the-table:_sre.template:shared#opaque" }, { hash := PySem.PyData.keyHash P (PySem.Str.ofString "getcodesize"), key := PySem.Value.str (PySem.Str.ofString "getcodesize") 255, val := PySem.Value.builtin "off-the-table:_sre.getcodesize:shared#opaque" }, { hash := PySem.PyData.keyHash P (PySem.Str.ofString "ascii_iscased"), key := PySem.Value.str (PySem.Str.ofString "ascii_iscased") 256, val := PySem.Value.builtin "off-the-table:_sre.ascii_iscased:shared#opaque" }, { hash := PySem.PyData.keyHash P (PySem.Str.ofString "unicode_iscased"), key := PySem.Value.str (PySem.Str.ofString "unicode_iscased") 257, val := PySem.Value.builtin "off-the-table:_sre.unicode_iscased:shared#opaque" }, { hash := PySem.PyData.keyHash P (PySem.Str.ofString "ascii_tolower"), key := PySem.Value.str (PySem.Str.ofString "ascii_tolower") 258, val := PySem.Value.builtin "off-the-table:_sre.ascii_tolower:shared#opaque" }, { hash := PySem.PyData.keyHash P (PySem.Str.ofString "unicode_tolower"), key := PySem.Value.str (PySem.Str.ofString "unicode_tolower") 259, val := PySem.Value.builtin "off-the-table:_sre.unicode_tolower:shared#opaque" }, { hash := PySem.PyData.keyHash P (PySem.Str.ofString "MAGIC"), key := PySem.Value.str (PySem.Str.ofString "MAGIC") 261, val := PySem.Value.int 20230612 260 }, { hash := PySem.PyData.keyHash P (PySem.Str.ofString "CODESIZE"), key := PySem.Value.str (PySem.Str.ofString "CODESIZE") 263, val := PySem.Value.int 4 262 }, { hash := PySem.PyData.keyHash P (PySem.Str.ofString "MAXREPEAT"), key := PySem.Value.str (PySem.Str.ofString "MAXREPEAT") 265, val := PySem.Value.int 4294967295 264 }, { hash := PySem.PyData.keyHash P (PySem.Str.ofString "MAXGROUPS"), key := PySem.Value.str (PySem.Str.ofString "MAXGROUPS") 267, val := PySem.Value.int 1073741823 266 }, { hash := PySem.PyData.keyHash P (PySem.Str.ofString "copyright"), key := PySem.Value.str (PySem.Str.ofString "copyright") 269, val := PySem.Value.str (PySem.Str.ofString " SRE 2.2.2 Copyright (c) 1997-2002 by Secret Labs AB ") 268 }] 17 } : PySem.Obj),
({ cls := PySem.Value.type "module", dict := Option.some 11 } : PySem.Obj),
({ cls := PySem.Value.type "dict", data := PySem.Data.dict #[{ hash := PySem.PyData.keyHash P (PySem.Str.ofString "__module__"), key := PySem.Value.str (PySem.Str.ofString "__module__") 189, val := PySem.Value.str (PySem.Str.ofString "_frozen_importlib") 186 }, { hash := PySem.PyData.keyHash P (PySem.Str.ofString "__firstlineno__"), key := PySem.Value.str (PySem.Str.ofString "__firstlineno__") 190, val := PySem.Value.int 971 187 }, { hash := PySem.PyData.keyHash P (PySem.Str.ofString "__doc__"), key := PySem.Value.str (PySem.Str.ofString "__doc__") 191, val := PySem.Value.builtin "_frozen_importlib.BuiltinImporter.__doc__:str#opaque" }, { hash := PySem.PyData.keyHash P (PySem.Str.ofString "_ORIGIN"), key := PySem.Value.str (PySem.Str.ofString "_ORIGIN") 192, val := PySem.Value.str (PySem.Str.ofString "built-in") 188 }, { hash := PySem.PyData.keyHash P (PySem.Str.ofString "find_spec"), key := PySem.Value.str (PySem.Str.ofString "find_spec") 193, val := PySem.Value.builtin "_frozen_importlib.BuiltinImporter.find_spec#opaque" }, { hash := PySem.PyData.keyHash P (PySem.Str.ofString "create_module"), key := PySem.Value.str (PySem.Str.ofString "create_module") 194, val := PySem.Value.builtin "_frozen_importlib.BuiltinImporter.create_module#opaque" }, { hash := PySem.PyData.keyHash P (PySem.Str.ofString "exec_module"), key := PySem.Value.str (PySem.Str.ofString "exec_module") 195, val := PySem.Value.builtin "_frozen_importlib.BuiltinImporter.exec_module#opaque" }, { hash := PySem.PyData.keyHash P (PySem.Str.ofString "get_code"), key := PySem.Value.str (PySem.Str.ofString "get_code") 196, val := PySem.Value.builtin "_frozen_importlib.BuiltinImporter.get_code#opaque" }, { hash := PySem.PyData.keyHash P (PySem.Str.ofString "get_source"), key := PySem.Value.str (PySem.Str.ofString "get_source") 197, val := PySem.Value.builtin "_frozen_importlib.BuiltinImporter.get_source#opaque" }, { hash := PySem.PyData.keyHash P (PySem.Str.ofString "is_package"), key := PySem.Value.str (PySem.Str.ofString "is_package") 198, val := PySem.Value.builtin "_frozen_importlib.BuiltinImporter.is_package#opaque" }, { hash := PySem.PyData.keyHash P (PySem.Str.ofString "load_module"), key := PySem.Value.str (PySem.Str.ofString "load_module") 199, val := PySem.Value.builtin "_frozen_importlib.BuiltinImporter.load_module#opaque" }, { hash := PySem.PyData.keyHash P (PySem.Str.ofString "__static_attributes__"), key := PySem.Value.str (PySem.Str.ofString "__static_attributes__") 200, val := PySem.Value.ref 15 }, { hash := PySem.PyData.keyHash P (PySem.Str.ofString "__dict__"), key := PySem.Value.str (PySem.Str.ofString "__dict__") 202, val := PySem.Value.ref 16 }, { hash := PySem.PyData.keyHash P (PySem.Str.ofString "__weakref__"), key := PySem.Value.str (PySem.Str.ofString "__weakref__") 204, val := PySem.Value.ref 17 }] 14 } : PySem.Obj),
({ cls := PySem.Value.type "type", data := PySem.Data.cls { name := PySem.Str.ofString "BuiltinImporter", bases := [PySem.Value.type "object"], mro := [PySem.Value.ref 14, PySem.Value.type "object"], ns := 13, qualname := PySem.Str.ofString "BuiltinImporter" } } : PySem.Obj),
({ cls := PySem.Value.type "tuple", data := PySem.Data.seq #[] } : PySem.Obj),
({ cls := PySem.Value.type "getset_descriptor", data := PySem.Data.fields #[PySem.Value.str (PySem.Str.ofString "__dict__") 201, PySem.Value.ref 14, PySem.Value.builtin "function.__dict__", PySem.Value.builtin "function.__dict__#set"] } : PySem.Obj),
({ cls := PySem.Value.type "getset_descriptor", data := PySem.Data.fields #[PySem.Value.str (PySem.Str.ofString "__weakref__") 203, PySem.Value.ref 14, PySem.Value.builtin "ExceptionGroup.__weakref__", PySem.Value.none] } : PySem.Obj),
({ cls := PySem.Value.none, data := PySem.Data.seq #[PySem.Value.int 13 0, PySem.Value.str { cps := #[6, 189, 10, 95, 95, 109, 111, 100, 117, 108, 101, 95, 95, 6, 186, 17, 95, 102, 114, 111, 122, 101, 110, 95, 105, 109, 112, 111, 114, 116, 108, 105, 98, 6, 190, 15, 95, 95, 102, 105, 114, 115, 116, 108, 105, 110, 101, 110, 111, 95, 95, 4, 187, 0, 971, 6, 191, 7, 95, 95, 100, 111, 99, 95, 95, 9, 52, 95, 102, 114, 111, 122, 101, 110, 95, 105, 109, 112, 111, 114, 116, 108, 105, 98, 46, 66, 117, 105, 108, 116, 105, 110, 73, 109, 112, 111, 114, 116, 101, 114, 46, 95, 95, 100, 111, 99, 95, 95, 58, 115, 116, 114, 35, 111, 112, 97, 113, 117, 101, 6, 192, 7, 95, 79, 82, 73, 71, 73, 78, 6, 188, 8, 98, 117, 105, 108, 116, 45, 105, 110, 6, 193, 9, 102, 105, 110, 100, 95, 115, 112, 101, 99, 9, 50, 95, 102, 114, 111, 122, 101, 110, 95, 105, 109, 112, 111, 114, 116, 108, 105, 98, 46, 66, 117, 105, 108, 116, 105, 110, 73, 109, 112, 111, 114, 116, 101, 114, 46, 102, 105, 110, 100, 95, 115, 112, 101, 99, 35, 111, 112, 97, 113, 117, 101, 6, 194, 13, 99, 114, 101, 97, 116, 101, 95, 109, 111, 100, 117, 108, 101, 9, 54, 95, 102, 114, 111, 122, 101, 110, 95, 105, 109, 112, 111, 114, 116, 108, 105, 98, 46, 66, 117, 105, 108, 116, 105, 110, 73, 109, 112, 111, 114, 116, 101, 114, 46, 99, 114, 101, 97, 116, 101, 95, 109, 111, 100, 117, 108, 101, 35, 111, 112, 97, 113, 117, 101, 6, 195, 11, 101, 120, 101, 99, 95, 109, 111, 100, 117, 108, 101, 9, 52, 95, 102, 114, 111, 122, 101, 110, 95, 105, 109, 112, 111, 114, 116, 108, 105, 98, 46, 66, 117, 105, 108, 116, 105, 110, 73, 109, 112, 111, 114, 116, 101, 114, 46, 101, 120, 101, 99, 95, 109, 111, 100, 117, 108, 101, 35, 111, 112, 97, 113, 117, 101, 6, 196, 8, 103, 101, 116, 95, 99, 111, 100, 101, 9, 49, 95, 102, 114, 111, 122, 101, 110, 95, 105, 109, 112, 111, 114, 116, 108, 105, 98, 46, 66, 117, 105, 108, 116, 105, 110, 73, 109, 112, 111, 114, 116, 101, 114, 46, 103, 101, 116, 95, 99, 111, 100, 101, 35, 111, 112, 97, 113, 117, 101, 6, 197, 10, 103, 101, 116, 95, 115, 111, 117, 114, 99, 101, 9, 51, 95, 102, 114, 111, 122, 101, 110, 95, 105, 109, 112, 111, 114, 116, 108, 105, 98, 46, 66, 117, 105, 108, 116, 105, 110, 73, 109, 112, 111, 114, 116, 101, 114, 46, 103, 101, 116, 95, 115, 111, 117, 114, 99, 101, 35, 111, 112, 97, 113, 117, 101, 6, 198, 10, 105, 115, 95, 112, 97, 99, 107, 97, 103, 101, 9, 51, 95, 102, 114, 111, 122, 101, 110, 95, 105, 109, 112, 111, 114, 116, 108, 105, 98, 46, 66, 117, 105, 108, 116, 105, 110, 73, 109, 112, 111, 114, 116, 101, 114, 46, 105, 115, 95, 112, 97, 99, 107, 97, 103, 101, 35, 111, 112, 97, 113, 117, 101, 6, 199, 11, 108, 111, 97, 100, 95, 109, 111, 100, 117, 108, 101, 9, 52, 95, 102, 114, 111, 122, 101, 110, 95, 105, 109, 112, 111, 114, 116, 108, 105, 98, 46, 66, 117, 105, 108, 116, 105, 110, 73, 109, 112, 111, 114, 116, 101, 114, 46, 108, 111, 97, 100, 95, 109, 111, 100, 117, 108, 101, 35, 111, 112, 97, 113, 117, 101, 6, 200, 21, 95, 95, 115, 116, 97, 116, 105, 99, 95, 97, 116, 116, 114, 105, 98, 117, 116, 101, 115, 95, 95, 4, 0, 0, 15, 6, 202, 8, 95, 95, 100, 105, 99, 116, 95, 95, 4, 0, 0, 16, 6, 204, 11, 95, 95, 119, 101, 97, 107, 114, 101, 102, 95, 95, 4, 0, 0, 17] } 0, PySem.Value.bool Bool.true, PySem.Value.bool Bool.true, PySem.Value.str (PySem.Str.ofString "") 205, PySem.Value.int 21 0, PySem.Value.str { cps := #[6, 227, 10, 95, 95, 109, 111, 100, 117, 108, 101, 95, 95, 6, 217, 17, 95, 102, 114, 111, 122, 101, 110, 95, 105, 109, 112, 111, 114, 116, 108, 105, 98, 6, 228, 15, 95, 95, 102, 105, 114, 115, 116, 108, 105, 110, 101, 110, 111, 95, 95, 4, 218, 0, 562, 6, 229, 7, 95, 95, 100, 111, 99, 95, 95, 9, 47, 95, 102, 114, 111, 122, 101, 110, 95, 105, 109, 112, 111, 114, 116, 108, 105, 98, 46, 77, 111, 100, 117, 108, 101, 83, 112, 101, 99, 46, 95, 95, 100, 111, 99, 95, 95, 58, 115, 116, 114, 35, 111, 112, 97, 113, 117, 101, 6, 230, 8, 95, 95, 105, 110, 105, 116, 95, 95, 9, 44, 95, 102, 114, 111, 122, 101, 110, 95, 105, 109, 112, 111, 114, 116, 108, 105, 98, 46, 77, 111, 100, 117, 108, 101, 83, 112, 101, 99, 46, 95, 95, 105, 110, 105, 116, 95, 95, 35, 111, 112, 97, 113, 117, 101, 6, 231, 8, 95, 95, 114, 101, 112, 114, 95, 95, 9, 44, 95, 102, 114, 111, 122, 101, 110, 95, 105, 109, 112, 111, 114, 116, 108, 105, 98, 46, 77, 111, 100, 117, 108, 101, 83, 112, 101, 99, 46, 95, 95, 114, 101, 112, 114, 95, 95, 35, 111, 112, 97, 113, 117, 101, 6, 232, 6, 95, 95, 101, 113, 95, 95, 9, 42, 95, 102, 114, 111, 122, 101, 110, 95, 105, 109, 112, 111, 114, 116, 108, 105, 98, 46, 77, 111, 100, 117, 108, 101, 83, 112, 101, 99, 46, 95, 95, 101, 113, 95, 95, 35, 111, 112, 97, 113, 117, 101, 6, 233, 6, 99, 97, 99, 104, 101, 100, 9, 42, 95, 102, 114, 111, 122, 101, 110, 95, 105, 109, 112, 111, 114, 116, 108, 105, 98, 46, 77, 111, 100, 117, 108, 101, 83, 112, 101, 99, 46, 99, 97, 99, 104, 101, 100, 35, 111, 112, 97, 113, 117, 101, 6, 234, 6, 112, 97, 114, 101, 110, 116, 9, 42, 95, 102, 114, 111, 122, 101, 110, 95, 105, 109, 112, 111, 114, 116, 108, 105, 98, 46, 77, 111, 100, 117, 108, 101, 83, 112, 101, 99, 46, 112, 97, 114, 101, 110, 116, 35, 111, 112, 97, 113, 117, 101, 6, 235, 12, 104, 97, 115, 95, 108, 111, 99, 97, 116, 105, 111, 110, 9, 48, 95, 102, 114, 111, 122, 101, 110, 95, 105, 109, 112, 111, 114, 116, 108, 105, 98, 46, 77, 111, 100, 117, 108, 101, 83, 112, 101, 99, 46, 104, 97, 115, 95, 108, 111, 99, 97, 116, 105, 111, 110, 35, 111, 112, 97, 113, 117, 101, 6, 236, 21, 95, 95, 115, 116, 97, 116, 105, 99, 95, 97, 116, 116, 114, 105, 98, 117, 116, 101, 115, 95, 95, 4, 0, 0, 23, 6, 238, 8, 95, 95, 100, 105, 99, 116, 95, 95, 4, 0, 0, 24, 6, 240, 11, 95, 95, 119, 101, 97, 107, 114, 101, 102, 95, 95, 4, 0, 0, 25, 6, 241, 8, 95, 95, 104, 97, 115, 104, 95, 95, 0] } 0, PySem.Value.bool Bool.true, PySem.Value.bool Bool.true, PySem.Value.str (PySem.Str.ofString "") 242] 1 } : PySem.Obj),
({ cls := PySem.Value.type "list", data := PySem.Data.seq #[] } : PySem.Obj),
({ cls := PySem.Value.type "dict", data := PySem.Data.dict #[{ hash := PySem.PyData.keyHash P (PySem.Str.ofString "name"), key := PySem.Value.str (PySem.Str.ofString "name") 208, val := PySem.Value.str (PySem.Str.ofString "_sre") 207 }, { hash := PySem.PyData.keyHash P (PySem.Str.ofString "loader"), key := PySem.Value.str (PySem.Str.ofString "loader") 209, val := PySem.Value.ref 14 }, { hash := PySem.PyData.keyHash P (PySem.Str.ofString "origin"), key := PySem.Value.str (PySem.Str.ofString "origin") 210, val := PySem.Value.str (PySem.Str.ofString "built-in") 184 }, { hash := PySem.PyData.keyHash P (PySem.Str.ofString "loader_state"), key := PySem.Value.str (PySem.Str.ofString "loader_state") 211, val := PySem.Value.none }, { hash := PySem.PyData.keyHash P (PySem.Str.ofString "submodule_search_locations"), key := PySem.Value.str (PySem.Str.ofString "submodule_search_locations") 212, val := PySem.Value.none }, { hash := PySem.PyData.keyHash P (PySem.Str.ofString "_uninitialized_submodules"), key := PySem.Value.str (PySem.Str.ofString "_uninitialized_submodules") 213, val := PySem.Value.ref 19 }, { hash := PySem.PyData.keyHash P (PySem.Str.ofString "_set_fileattr"), key := PySem.Value.str (PySem.Str.ofString "_set_fileattr") 214, val := PySem.Value.bool Bool.false }, { hash := PySem.PyData.keyHash P (PySem.Str.ofString "_cached"), key := PySem.Value.str (PySem.Str.ofString "_cached") 215, val := PySem.Value.none }, { hash := PySem.PyData.keyHash P (PySem.Str.ofString "_initializing"), key := PySem.Value.str (PySem.Str.ofString "_initializing") 243, val := PySem.Value.bool Bool.false }] 9 } : PySem.Obj),
({ cls := PySem.Value.type "dict", data := PySem.Data.dict #[{ hash := PySem.PyData.keyHash P (PySem.Str.ofString "__module__"), key := PySem.Value.str (PySem.Str.ofString "__module__") 227, val := PySem.Value.str (PySem.Str.ofString "_frozen_importlib") 217 }, { hash := PySem.PyData.keyHash P (PySem.Str.ofString "__firstlineno__"), key := PySem.Value.str (PySem.Str.ofString "__firstlineno__") 228, val := PySem.Value.int 562 218 }, { hash := PySem.PyData.keyHash P (PySem.Str.ofString "__doc__"), key := PySem.Value.str (PySem.Str.ofString "__doc__") 229, val := PySem.Value.builtin "_frozen_importlib.ModuleSpec.__doc__:str#opaque" }, { hash := PySem.PyData.keyHash P (PySem.Str.ofString "__init__"), key := PySem.Value.str (PySem.Str.ofString "__init__") 230, val := PySem.Value.builtin "_frozen_importlib.ModuleSpec.__init__#opaque" }, { hash := PySem.PyData.keyHash P (PySem.Str.ofString "__repr__"), key := PySem.Value.str (PySem.Str.ofString "__repr__") 231, val := PySem.Value.builtin "_frozen_importlib.ModuleSpec.__repr__#opaque" }, { hash := PySem.PyData.keyHash P (PySem.Str.ofString "__eq__"), key := PySem.Value.str (PySem.Str.ofString "__eq__") 232, val := PySem.Value.builtin "_frozen_importlib.ModuleSpec.__eq__#opaque" }, { hash := PySem.PyData.keyHash P (PySem.Str.ofString "cached"), key := PySem.Value.str (PySem.Str.ofString "cached") 233, val := PySem.Value.builtin "_frozen_importlib.ModuleSpec.cached#opaque" }, { hash := PySem.PyData.keyHash P (PySem.Str.ofString "parent"), key := PySem.Value.str (PySem.Str.ofString "parent") 234, val := PySem.Value.builtin "_frozen_importlib.ModuleSpec.parent#opaque" }, { hash := PySem.PyData.keyHash P (PySem.Str.ofString "has_location"), key := PySem.Value.str (PySem.Str.ofString "has_location") 235, val := PySem.Value.builtin "_frozen_importlib.ModuleSpec.has_location#opaque" }, { hash := PySem.PyData.keyHash P (PySem.Str.ofString "__static_attributes__"), key := PySem.Value.str (PySem.Str.ofString "__static_attributes__") 236, val := PySem.Value.ref 23 }, { hash := PySem.PyData.keyHash P (PySem.Str.ofString "__dict__"), key := PySem.Value.str (PySem.Str.ofString "__dict__") 238, val := PySem.Value.ref 24 }, { hash := PySem.PyData.keyHash P (PySem.Str.ofString "__weakref__"), key := PySem.Value.str (PySem.Str.ofString "__weakref__") 240, val := PySem.Value.ref 25 }, { hash := PySem.PyData.keyHash P (PySem.Str.ofString "__hash__"), key := PySem.Value.str (PySem.Str.ofString "__hash__") 241, val := PySem.Value.none }] 13 } : PySem.Obj),
({ cls := PySem.Value.type "type", data := PySem.Data.cls { name := PySem.Str.ofString "ModuleSpec", bases := [PySem.Value.type "object"], mro := [PySem.Value.ref 22, PySem.Value.type "object"], ns := 21, qualname := PySem.Str.ofString "ModuleSpec" } } : PySem.Obj),
({ cls := PySem.Value.type "tuple", data := PySem.Data.seq #[PySem.Value.str (PySem.Str.ofString "_cached") 219, PySem.Value.str (PySem.Str.ofString "_set_fileattr") 220, PySem.Value.str (PySem.Str.ofString "_uninitialized_submodules") 221, PySem.Value.str (PySem.Str.ofString "loader") 222, PySem.Value.str (PySem.Str.ofString "loader_state") 223, PySem.Value.str (PySem.Str.ofString "name") 224, PySem.Value.str (PySem.Str.ofString "origin") 225, PySem.Value.str (PySem.Str.ofString "submodule_search_locations") 226] } : PySem.Obj),
({ cls := PySem.Value.type "getset_descriptor", data := PySem.Data.fields #[PySem.Value.str (PySem.Str.ofString "__dict__") 237, PySem.Value.ref 22, PySem.Value.builtin "function.__dict__", PySem.Value.builtin "function.__dict__#set"] } : PySem.Obj),
({ cls := PySem.Value.type "getset_descriptor", data := PySem.Data.fields #[PySem.Value.str (PySem.Str.ofString "__weakref__") 239, PySem.Value.ref 22, PySem.Value.builtin "ExceptionGroup.__weakref__", PySem.Value.none] } : PySem.Obj),
({ cls := PySem.Value.ref 22, dict := Option.some 20 } : PySem.Obj),
({ cls := PySem.Value.none, data := PySem.Data.seq #[PySem.Value.int 11 0, PySem.Value.str { cps := #[6, 247, 8, 95, 95, 110, 97, 109, 101, 95, 95, 6, 246, 4, 95, 115, 114, 101, 6, 248, 7, 95, 95, 100, 111, 99, 95, 95, 0, 6, 250, 11, 95, 95, 112, 97, 99, 107, 97, 103, 101, 95, 95, 6, 249, 0, 6, 251, 10, 95, 95, 108, 111, 97, 100, 101, 114, 95, 95, 4, 0, 0, 14, 6, 252, 8, 95, 95, 115, 112, 101, 99, 95, 95, 4, 0, 0, 26, 6, 253, 7, 99, 111, 109, 112, 105, 108, 101, 9, 12, 95, 115, 114, 101, 46, 99, 111, 109, 112, 105, 108, 101, 6, 254, 8, 116, 101, 109, 112, 108, 97, 116, 101, 9, 13, 95, 115, 114, 101, 46, 116, 101, 109, 112, 108, 97, 116, 101, 6, 255, 11, 103, 101, 116, 99, 111, 100, 101, 115, 105, 122, 101, 9, 16, 95, 115, 114, 101, 46, 103, 101, 116, 99, 111, 100, 101, 115, 105, 122, 101, 6, 256, 13, 97, 115, 99, 105, 105, 95, 105, 115, 99, 97, 115, 101, 100, 9, 18, 95, 115, 114, 101, 46, 97, 115, 99, 105, 105, 95, 105, 115, 99, 97, 115, 101, 100, 6, 257, 15, 117, 110, 105, 99, 111, 100, 101, 95, 105, 115, 99, 97, 115, 101, 100, 9, 20, 95, 115, 114, 101, 46, 117, 110, 105, 99, 111, 100, 101, 95, 105, 115, 99, 97, 115, 101, 100, 6, 258, 13, 97, 115, 99, 105, 105, 95, 116, 111, 108, 111, 119, 101, 114, 9, 18, 95, 115, 114, 101, 46, 97, 115, 99, 105, 105, 95, 116, 111, 108, 111, 119, 101, 114, 6, 259, 15, 117, 110, 105, 99, 111, 100, 101, 95, 116, 111, 108, 111, 119, 101, 114, 9, 20, 95, 115, 114, 101, 46, 117, 110, 105, 99, 111, 100, 101, 95, 116, 111, 108, 111, 119, 101, 114, 6, 261, 5, 77, 65, 71, 73, 67, 4, 260, 0, 20230612, 6, 263, 8, 67, 79, 68, 69, 83, 73, 90, 69, 4, 262, 0, 4, 6, 265, 9, 77, 65, 88, 82, 69, 80, 69, 65, 84, 4, 264, 0, 4294967295, 6, 267, 9, 77, 65, 88, 71, 82, 79, 85, 80, 83, 4, 266, 0, 1073741823, 6, 269, 9, 99, 111, 112, 121, 114, 105, 103, 104, 116, 6, 268, 53, 32, 83, 82, 69, 32, 50, 46, 50, 46, 50, 32, 67, 111, 112, 121, 114, 105, 103, 104, 116, 32, 40, 99, 41, 32, 49, 57, 57, 55, 45, 50, 48, 48, 50, 32, 98, 121, 32, 83, 101, 99, 114, 101, 116, 32, 76, 97, 98, 115, 32, 65, 66, 32] } 0, PySem.Value.bool Bool.true, PySem.Value.bool Bool.false, PySem.Value.str (PySem.Str.ofString "_sre") 271] } : PySem.Obj)]
noncomputable def o0 (P : PySem.Params) (a : Nat) : PySem.Obj := (t0L P).getD a default
noncomputable def taL (P : PySem.Params) : List PySem.Obj := [o0 P 0,
o0 P 1,
o0 P 2,
o0 P 3,
o0 P 4,
o0 P 5,
o0 P 6,
o0 P 7,
o0 P 8,
o0 P 9,
o0 P 10,
o0 P 11,
o0 P 12,
o0 P 13,
o0 P 14,
o0 P 15,
o0 P 16,
o0 P 17,
o0 P 18,
o0 P 19,
o0 P 20,
o0 P 21,
o0 P 22,
o0 P 23,
o0 P 24,
o0 P 25,
o0 P 26,
o0 P 27,
({ cls := PySem.Value.type "tuple", data := PySem.Data.seq #[] } : PySem.Obj),
({ cls := PySem.Value.none, data := PySem.Data.fields #[] } : PySem.Obj),
({ cls := PySem.Value.type "code", data := PySem.Data.fields #[PySem.Value.str (PySem.Str.ofString "<module>") 277, PySem.Value.str (PySem.Str.ofString "<module>") 278, PySem.Value.str (PySem.Str.ofString "/claim/cut.py") 279, PySem.Value.int 1 0, PySem.Value.int 0 0, PySem.Value.int 0 0, PySem.Value.int 0 0, PySem.Value.int 0 0, PySem.Value.ref 28, PySem.Value.bool Bool.false, PySem.Value.int 276 0, PySem.Value.ref 29, PySem.Value.none, PySem.Value.none, PySem.Value.none, PySem.Value.none, PySem.Value.int 280 0, PySem.Value.int 1 0, PySem.Value.str (PySem.Str.ofString "/claim/cut.py") 281] } : PySem.Obj),
({ cls := PySem.Value.type "frame", slots := #[Option.some (PySem.Value.ref 30), Option.some (PySem.Value.ref 3), Option.some (PySem.Value.ref 3), Option.none, Option.some (PySem.Value.str (PySem.Str.ofString "__main__") 164), Option.none, Option.some (PySem.Value.ref 0)] } : PySem.Obj)]
noncomputable def tbL : PySem.Params → List PySem.Obj := by
  refine (?f : ∀ (a36 : PySem.Arguments) (b36 : List PySem.Stmt) (c36 : PySem.Scope) (_ : defAt bd 1 = some (a36, b36, c36)), PySem.Params → List PySem.Obj) ?a36 ?b36 ?c36 ?h36
  case h36 => exact rfl
  case f => exact fun a36 b36 c36 _ => fun P =>
[o0 P 0,
o0 P 1,
hob P 2,
({ cls := PySem.Value.type "dict", data := PySem.Data.dict #[{ hash := PySem.PyData.keyHash P (PySem.Str.ofString "__name__"), key := PySem.Value.str (PySem.Str.ofString "__name__") 165, val := PySem.Value.str (PySem.Str.ofString "re") 327 }, { hash := PySem.PyData.keyHash P (PySem.Str.ofString "__doc__"), key := PySem.Value.str (PySem.Str.ofString "__doc__") 166, val := PySem.Value.none }, { hash := PySem.PyData.keyHash P (PySem.Str.ofString "__package__"), key := PySem.Value.str (PySem.Str.ofString "__package__") 167, val := PySem.Value.none }, { hash := PySem.PyData.keyHash P (PySem.Str.ofString "__loader__"), key := PySem.Value.str (PySem.Str.ofString "__loader__") 168, val := PySem.Value.builtin "__main__.__loader__#opaque" }, { hash := PySem.PyData.keyHash P (PySem.Str.ofString "__spec__"), key := PySem.Value.str (PySem.Str.ofString "__spec__") 169, val := PySem.Value.none }, { hash := PySem.PyData.keyHash P (PySem.Str.ofString "__annotations__"), key := PySem.Value.str (PySem.Str.ofString "__annotations__") 170, val := PySem.Value.ref 6 }, { hash := PySem.PyData.keyHash P (PySem.Str.ofString "__builtins__"), key := PySem.Value.str (PySem.Str.ofString "__builtins__") 171, val := PySem.Value.ref 4 }, { hash := PySem.PyData.keyHash P (PySem.Str.ofString "__file__"), key := PySem.Value.str (PySem.Str.ofString "__file__") 173, val := PySem.Value.str (PySem.Str.ofString "/claim/cut.py") 172 }, { hash := PySem.PyData.keyHash P (PySem.Str.ofString "__cached__"), key := PySem.Value.str (PySem.Str.ofString "__cached__") 174, val := PySem.Value.none }, { hash := PySem.PyData.keyHash P (PySem.Str.ofString "_sre"), key := PySem.Value.str (PySem.Str.ofString "_sre") 275, val := PySem.Value.ref 12 }, { hash := PySem.PyData.keyHash P (PySem.Str.ofString "_wall"), key := PySem.Value.str (PySem.Str.ofString "_wall") 288, val := PySem.Value.ref 38 }, { hash := PySem.PyData.keyHash P (PySem.Str.ofString "_twin_re_1"), key := PySem.Value.str (PySem.Str.ofString "_twin_re_1") 326, val := PySem.Value.ref 43 }] 12 } : PySem.Obj),
o0 P 4,
o0 P 5,
o0 P 6,
o0 P 7,
o0 P 8,
o0 P 9,
o0 P 10,
o0 P 11,
o0 P 12,
o0 P 13,
o0 P 14,
o0 P 15,
o0 P 16,
o0 P 17,
o0 P 18,
o0 P 19,
o0 P 20,
o0 P 21,
o0 P 22,
o0 P 23,
o0 P 24,
o0 P 25,
o0 P 26,
o0 P 27,
({ cls := PySem.Value.type "tuple", data := PySem.Data.seq #[] } : PySem.Obj),
({ cls := PySem.Value.none, data := PySem.Data.fields #[PySem.Value.int 2 0, PySem.Value.int 0 0, PySem.Value.ref 37] } : PySem.Obj),
({ cls := PySem.Value.type "code", data := PySem.Data.fields #[PySem.Value.str (PySem.Str.ofString "<module>") 277, PySem.Value.str (PySem.Str.ofString "<module>") 278, PySem.Value.str (PySem.Str.ofString "/claim/cut.py") 279, PySem.Value.int 1 0, PySem.Value.int 0 0, PySem.Value.int 0 0, PySem.Value.int 0 0, PySem.Value.int 0 0, PySem.Value.ref 28, PySem.Value.bool Bool.false, PySem.Value.int 276 0, PySem.Value.ref 29, PySem.Value.none, PySem.Value.none, PySem.Value.none, PySem.Value.none, PySem.Value.int 280 0, PySem.Value.int 1 0, PySem.Value.str (PySem.Str.ofString "/claim/cut.py") 281] } : PySem.Obj),
({ cls := PySem.Value.type "frame", slots := #[Option.some (PySem.Value.ref 30), Option.some (PySem.Value.ref 3), Option.some (PySem.Value.ref 3), Option.none, Option.some (PySem.Value.str (PySem.Str.ofString "__main__") 164), Option.none, Option.some (PySem.Value.ref 0)] } : PySem.Obj),
hob P 32,
({ cls := PySem.Value.none, data := PySem.Data.fields #[] } : PySem.Obj),
hob P 34,
hob P 35,
({ cls := PySem.Value.none, data := PySem.Data.func { name := PySem.Str.ofString "_wall", qualname := PySem.Str.ofString "_wall", params := a36, body := PySem.FuncBody.stmts b36, scope := c36, globals := 0, closure := [], defaults := PySem.Value.none, kwdefaults := PySem.Value.none } } : PySem.Obj),
hob P 37,
hob P 38,
({ cls := PySem.Value.type "list", data := PySem.Data.seq #[PySem.Value.int 14 292, PySem.Value.int 14 293, PySem.Value.int 4 294, PySem.Value.int 1 295, PySem.Value.int 1 296, PySem.Value.int 9 297, PySem.Value.int 0 298, PySem.Value.int 64 299, PySem.Value.int 0 300, PySem.Value.int 1342177280 301, PySem.Value.int 0 302, PySem.Value.int 0 303, PySem.Value.int 0 304, PySem.Value.int 0 305, PySem.Value.int 0 306, PySem.Value.int 17 307, PySem.Value.int 0 308, PySem.Value.int 13 309, PySem.Value.int 11 310, PySem.Value.int 9 311, PySem.Value.int 0 312, PySem.Value.int 64 313, PySem.Value.int 0 314, PySem.Value.int 1342177280 315, PySem.Value.int 0 316, PySem.Value.int 0 317, PySem.Value.int 0 318, PySem.Value.int 0 319, PySem.Value.int 0 320, PySem.Value.int 17 321, PySem.Value.int 1 322, PySem.Value.int 1 323] } : PySem.Obj),
({ cls := PySem.Value.type "dict", data := PySem.Data.dict #[] } : PySem.Obj),
({ cls := PySem.Value.type "tuple", data := PySem.Data.seq #[PySem.Value.none, PySem.Value.none] } : PySem.Obj),
hob P 42,
hob P 43]
noncomputable def ob (P : PySem.Params) (a : Nat) : PySem.Obj := (tbL P).getD a default
noncomputable def tcL (P : PySem.Params) : List PySem.Obj := [ob P 0,
ob P 1,
ob P 2,
({ cls := PySem.Value.type "dict", data := PySem.Data.dict #[{ hash := PySem.PyData.keyHash P (PySem.Str.ofString "__name__"), key := PySem.Value.str (PySem.Str.ofString "__name__") 165, val := PySem.Value.str (PySem.Str.ofString "re") 327 }, { hash := PySem.PyData.keyHash P (PySem.Str.ofString "__doc__"), key := PySem.Value.str (PySem.Str.ofString "__doc__") 166, val := PySem.Value.none }, { hash := PySem.PyData.keyHash P (PySem.Str.ofString "__package__"), key := PySem.Value.str (PySem.Str.ofString "__package__") 167, val := PySem.Value.none }, { hash := PySem.PyData.keyHash P (PySem.Str.ofString "__loader__"), key := PySem.Value.str (PySem.Str.ofString "__loader__") 168, val := PySem.Value.builtin "__main__.__loader__#opaque" }, { hash := PySem.PyData.keyHash P (PySem.Str.ofString "__spec__"), key := PySem.Value.str (PySem.Str.ofString "__spec__") 169, val := PySem.Value.none }, { hash := PySem.PyData.keyHash P (PySem.Str.ofString "__annotations__"), key := PySem.Value.str (PySem.Str.ofString "__annotations__") 170, val := PySem.Value.ref 6 }, { hash := PySem.PyData.keyHash P (PySem.Str.ofString "__builtins__"), key := PySem.Value.str (PySem.Str.ofString "__builtins__") 171, val := PySem.Value.ref 4 }, { hash := PySem.PyData.keyHash P (PySem.Str.ofString "__file__"), key := PySem.Value.str (PySem.Str.ofString "__file__") 173, val := PySem.Value.str (PySem.Str.ofString "/claim/cut.py") 172 }, { hash := PySem.PyData.keyHash P (PySem.Str.ofString "__cached__"), key := PySem.Value.str (PySem.Str.ofString "__cached__") 174, val := PySem.Value.none }, { hash := PySem.PyData.keyHash P (PySem.Str.ofString "_sre"), key := PySem.Value.str (PySem.Str.ofString "_sre") 275, val := PySem.Value.ref 12 }, { hash := PySem.PyData.keyHash P (PySem.Str.ofString "_wall"), key := PySem.Value.str (PySem.Str.ofString "_wall") 288, val := PySem.Value.ref 38 }, { hash := PySem.PyData.keyHash P (PySem.Str.ofString "_twin_re_1"), key := PySem.Value.str (PySem.Str.ofString "_twin_re_1") 326, val := PySem.Value.ref 43 }, { hash := PySem.PyData.keyHash P (PySem.Str.ofString "_special_chars_map"), key := PySem.Value.str (PySem.Str.ofString "_special_chars_map") 474, val := PySem.Value.ref 45 }] 13 } : PySem.Obj),
ob P 4,
ob P 5,
ob P 6,
ob P 7,
ob P 8,
ob P 9,
ob P 10,
ob P 11,
ob P 12,
ob P 13,
ob P 14,
ob P 15,
ob P 16,
ob P 17,
ob P 18,
ob P 19,
ob P 20,
ob P 21,
ob P 22,
ob P 23,
ob P 24,
ob P 25,
ob P 26,
ob P 27,
ob P 28,
ob P 29,
ob P 30,
ob P 31,
ob P 32,
ob P 33,
ob P 34,
ob P 35,
ob P 36,
ob P 37,
ob P 38,
ob P 39,
ob P 40,
ob P 41,
ob P 42,
ob P 43,
({ cls := PySem.Value.type "bytes_iterator", data := PySem.Data.fields #[PySem.Value.none, PySem.Value.int 24 0] } : PySem.Obj),
hob P 45,
({ cls := PySem.Value.type "dict", data := PySem.Data.dict #[] 2 } : PySem.Obj),
({ cls := PySem.Value.type "tuple", data := PySem.Data.seq #[] } : PySem.Obj),
({ cls := PySem.Value.type "StopIteration", data := PySem.Data.fields #[PySem.Value.ref 47, PySem.Value.none, PySem.Value.none, PySem.Value.none, PySem.Value.bool Bool.false, PySem.Value.none] } : PySem.Obj)]
noncomputable def tiL (P : PySem.Params) : List PySem.Obj := [o0 P 0,
o0 P 1,
o0 P 2,
o0 P 3,
o0 P 4,
o0 P 5,
o0 P 6,
o0 P 7,
o0 P 8,
o0 P 9,
o0 P 10,
({ cls := PySem.Value.type "dict", data := PySem.Data.dict #[{ hash := PySem.PyData.keyHash P (PySem.Str.ofString "__name__"), key := PySem.Value.str (PySem.Str.ofString "__name__") 247, val := PySem.Value.str (PySem.Str.ofString "_sre") 246 }, { hash := PySem.PyData.keyHash P (PySem.Str.ofString "__doc__"), key := PySem.Value.str (PySem.Str.ofString "__doc__") 248, val := PySem.Value.none }, { hash := PySem.PyData.keyHash P (PySem.Str.ofString "__package__"), key := PySem.Value.str (PySem.Str.ofString "__package__") 250, val := PySem.Value.str (PySem.Str.ofString "") 249 }, { hash := PySem.PyData.keyHash P (PySem.Str.ofString "__loader__"), key := PySem.Value.str (PySem.Str.ofString "__loader__") 251, val := PySem.Value.ref 14 }, { hash := PySem.PyData.keyHash P (PySem.Str.ofString "__spec__"), key := PySem.Value.str (PySem.Str.ofString "__spec__") 252, val := PySem.Value.ref 26 }, { hash := PySem.PyData.keyHash P (PySem.Str.ofString "compile"), key := PySem.Value.str (PySem.Str.ofString "compile") 253, val := PySem.Value.builtin "_sre.compile" }, { hash := PySem.PyData.keyHash P (PySem.Str.ofString "template"), key := PySem.Value.str (PySem.Str.ofString "template") 254, val := PySem.Value.builtin "_sre.template" }, { hash := PySem.PyData.keyHash P (PySem.Str.ofString "getcodesize"), key := PySem.Value.str (PySem.Str.ofString "getcodesize") 255, val := PySem.Value.builtin "_sre.getcodesize" }, { hash := PySem.PyData.keyHash P (PySem.Str.ofString "ascii_iscased"), key := PySem.Value.str (PySem.Str.ofString "ascii_iscased") 256, val := PySem.Value.builtin "_sre.ascii_iscased" }, { hash := PySem.PyData.keyHash P (PySem.Str.ofString "unicode_iscased"), key := PySem.Value.str (PySem.Str.ofString "unicode_iscased") 257, val := PySem.Value.builtin "_sre.unicode_iscased" }, { hash := PySem.PyData.keyHash P (PySem.Str.ofString "ascii_tolower"), key := PySem.Value.str (PySem.Str.ofString "ascii_tolower") 258, val := PySem.Value.builtin "_sre.ascii_tolower" }, { hash := PySem.PyData.keyHash P (PySem.Str.ofString "unicode_tolower"), key := PySem.Value.str (PySem.Str.ofString "unicode_tolower") 259, val := PySem.Value.builtin "_sre.unicode_tolower" }, { hash := PySem.PyData.keyHash P (PySem.Str.ofString "MAGIC"), key := PySem.Value.str (PySem.Str.ofString "MAGIC") 261, val := PySem.Value.int 20230612 260 }, { hash := PySem.PyData.keyHash P (PySem.Str.ofString "CODESIZE"), key := PySem.Value.str (PySem.Str.ofString "CODESIZE") 263, val := PySem.Value.int 4 262 }, { hash := PySem.PyData.keyHash P (PySem.Str.ofString "MAXREPEAT"), key := PySem.Value.str (PySem.Str.ofString "MAXREPEAT") 265, val := PySem.Value.int 4294967295 264 }, { hash := PySem.PyData.keyHash P (PySem.Str.ofString "MAXGROUPS"), key := PySem.Value.str (PySem.Str.ofString "MAXGROUPS") 267, val := PySem.Value.int 1073741823 266 }, { hash := PySem.PyData.keyHash P (PySem.Str.ofString "copyright"), key := PySem.Value.str (PySem.Str.ofString "copyright") 269, val := PySem.Value.str (PySem.Str.ofString " SRE 2.2.2 Copyright (c) 1997-2002 by Secret Labs AB ") 268 }] 17 } : PySem.Obj),
o0 P 12,
o0 P 13,
o0 P 14,
o0 P 15,
o0 P 16,
o0 P 17,
o0 P 18,
o0 P 19,
o0 P 20,
o0 P 21,
o0 P 22,
o0 P 23,
o0 P 24,
o0 P 25,
o0 P 26,
o0 P 27]
noncomputable def tCode : PySem.Value := PySem.Value.ref 30
noncomputable abbrev tEnv : PySem.Env := { scope := PySem.Challenge.pw_rx0110_02.main.scope, locals := mainNs, globals := mainNs, cells := [], code := tCode, frame := some 31 }
noncomputable abbrev tBody : List PySem.Stmt := behindTheImports PySem.Challenge.rw_rx0110_02.row.prog
noncomputable abbrev tC : PySem.Code := .body tBody tEnv
noncomputable abbrev tPosQ : PySem.Pos := { line := 0, col := 0, endLine := 0, endCol := 0 }
noncomputable abbrev tPosA : PySem.Pos := { line := 0, col := 0, endLine := 0, endCol := 0 }
noncomputable abbrev tPosK : PySem.Pos := { line := 0, col := 0, endLine := 0, endCol := 0 }
noncomputable abbrev tPosB : PySem.Pos := { line := 6, col := 0, endLine := 6, endCol := 8 }
noncomputable abbrev tPosC : PySem.Pos := { line := 7, col := 0, endLine := 7, endCol := 18 }

theorem hdAs_eq : ∀ P, hdAs = (hd.heap_39 P).map (·.1) := fun P => by kernel_rfl
noncomputable abbrev hdHook : Hook := kmHook hd.heap_39 hdAs hdAs_eq [57]
abbrev hdRow : OpenRow := PySem.Challenge.rw_rx0110_02.row
abbrev hdLoose : List Str := [Str.ofString "_twin_re_1", Str.ofString "_special_chars_map"]
noncomputable abbrev hdXt (s : Shared) : Bool := xlAt hd.view_39 [] s && recOk (RowW.records (OpenRow.toRowW hdRow)) s
noncomputable abbrev tAnn : Option PySem.Value := Option.some (PySem.Value.ref 6)
theorem cut_start : (start (opening hdRow.prog)).1 = ⟨⟨#[], {}⟩, #[], {}, 1, (start (opening hdRow.prog)).1.os⟩ := by kernel_rfl
theorem cut_open : ∀ w : World, impRunT treeTable (opening hdRow.prog) w 2517 (stT [] 0 1 (start (opening hdRow.prog)).1.os) (start (opening hdRow.prog)).2 = some (stT (tiL w.params) 28 276 (start (opening hdRow.prog)).1.os) := fun w => by kernel_rfl
theorem cut_fence : ∀ (w : World) (os : OsState), (fenceModules? hdRow.prog (stT (tiL w.params) 28 276 os).abs).map (fun s => (s.heap, s.gens, s.drawn, s.toks)) = some (absHeap (treeOf (t0L w.params)) 28 {}, #[], {}, 276) := fun w os => by kernel_rfl
theorem cut_size : ∀ w : World, ((absHeap (treeOf (t0L w.params)) 28 {}).isNs mainGlobals, (absHeap (treeOf (t0L w.params)) 28 {}).nsMap mainGlobals "__annotations__") = (true, tAnn) := fun w => by kernel_rfl
theorem cut_pre : ∀ (w : World) (os : OsState), topGoT treeTable hdRow.prog w 28 tAnn 12 (stT (t0L w.params) 28 276 os) (topStub hdRow.prog) = some ((stT (taL w.params) 32 282 os), ⟨denote treeTable tC, tC, tPosA, [topFrame tPosQ]⟩) := fun w os => by kernel_rfl
theorem cut_block : ∀ (w : World) (os : OsState), segRunT treeTable hdRow.prog w 28 tAnn 1 1 (stT (taL w.params) 32 282 os) (blockOf tBody tEnv tC tPosA [topFrame tPosQ]) = some (.next, (stT (taL w.params) 32 282 os), tC, tPosK) := fun w os => by kernel_rfl
theorem cut_run : ∀ (w : World) (os : OsState), segRunT treeTable hdRow.prog w 28 tAnn 1 120 (stT (taL w.params) 32 282 os) (piecesOf (tBody.take 3) tEnv tC tPosK [topFrame tPosQ]) = some (.next, (stT (tbL w.params) 44 329 os), tC, tPosB) := fun w os => by kernel_rfl
noncomputable abbrev AskP (w : World) (os : OsState) : Prop := segRunT treeTable hdRow.prog w 28 tAnn 1 1253 (stT (tbL w.params) 44 329 os) (piecesOf ((tBody.drop 3).take 1) tEnv tC tPosB [topFrame tPosQ]) = some (.next, (stT (tcL w.params) 49 475 os), tC, tPosC)
theorem ask_ff : ∀ (w : World) (os : OsState), AskP ((w.withFollow "special-get-raises" false).withFollow "comprehension-iter-twice" false) os := fun w os => by kernel_rfl
theorem ask_ft : ∀ (w : World) (os : OsState), AskP ((w.withFollow "special-get-raises" true).withFollow "comprehension-iter-twice" false) os := fun w os => by kernel_rfl
theorem ask_tf : ∀ (w : World) (os : OsState), AskP ((w.withFollow "special-get-raises" false).withFollow "comprehension-iter-twice" true) os := fun w os => by kernel_rfl
theorem ask_tt : ∀ (w : World) (os : OsState), AskP ((w.withFollow "special-get-raises" true).withFollow "comprehension-iter-twice" true) os := fun w os => by kernel_rfl
theorem ask_f (w : World) (os : OsState) : AskP (w.withFollow "comprehension-iter-twice" false) os := byRow2 "special-get-raises" (P := fun w => AskP (w.withFollow "comprehension-iter-twice" false) os) (fun w => ask_ff w os) (fun w => ask_ft w os) w
theorem ask_t (w : World) (os : OsState) : AskP (w.withFollow "comprehension-iter-twice" true) os := byRow2 "special-get-raises" (P := fun w => AskP (w.withFollow "comprehension-iter-twice" true) os) (fun w => ask_tf w os) (fun w => ask_tt w os) w
theorem cut_end : ∀ (w : World) (os : OsState), (topRunT treeTable hdRow.prog w 28 tAnn 1131 (stT (tcL w.params) 49 475 os) (restOf ((tBody.drop 3).drop 1) tEnv tC tPosC [topFrame tPosQ])).bind (fun s₁ => topEnd hdRow.prog hd.view_39 hdLoose hdXt hdHook.obs (absHeap (treeOf (t0L w.params)) 28 {}) s₁.abs) = some (openGood hd.view_39 hdLoose, hdHook.val w) := fun w os => by kernel_rfl
theorem left : LeftO hdRow.prog hd.view_39 hdLoose hdXt hdHook.obs hdHook.val (12 + (1 + (120 + (1253 + 1131)))) :=
  left_of_cut (l1 := tBody.take 3) (l2 := (tBody.drop 3).take 1) (l3 := (tBody.drop 3).drop 1) (by rw [List.take_append_drop, List.take_append_drop]) cut_start rfl cut_open cut_fence cut_size cut_pre cut_block cut_run (fun w os => byRow2 "comprehension-iter-twice" (P := fun w => AskP w os) (fun w => ask_f w os) (fun w => ask_t w os) w) cut_end
local macro_rules | `(tactic| omega) => `(tactic| lia)
local macro_rules | `(tactic| walk_at $s:str) => `(tactic| k_extra $s)
local macro_rules | `(tactic| size_fits) => `(tactic| (rw [sizeLine_eq]; omega))
section
open PySem PySem.W PyProof.Rows PySem.Calls
theorem cut_mid {α : Type} (xs : List α) (a b : Nat) : List.take (min (a + b) xs.length - a) (xs.drop a) = (xs.drop a).take b := by
  rw [List.take_eq_take_iff, List.length_drop, ← Nat.sub_min_sub_right, Nat.add_sub_cancel_left, Nat.min_assoc, Nat.min_self]
theorem int_nn (k : Nat) : ¬ ((k : Int) < 0) := Int.not_lt.mpr (Int.natCast_nonneg k)
theorem clamp_id {k n : Nat} (h : k ≤ n) : max (0 : Int) (min (k : Int) (n : Int)) = (k : Int) := by
  rw [Int.min_eq_left (Int.ofNat_le.mpr h), Int.max_eq_right (Int.natCast_nonneg _)]
theorem clamp_min (k n : Nat) : max (0 : Int) (min (k : Int) (n : Int)) = max (0 : Int) (min ((min k n : Nat) : Int) (n : Int)) := by
  rcases Nat.le_total k n with h | h
  · rw [Nat.min_eq_left h]
  · rw [Nat.min_eq_right h, Int.min_eq_right (Int.ofNat_le.mpr h), Int.min_self]
theorem max0_nat (i : Nat) : (max (0 : Int) (i : Int)).toNat = i := by
  rw [Int.max_eq_right (Int.natCast_nonneg _)]; rfl
theorem neg1_nat (n : Nat) : ((-1 : Int) + (n : Nat)).toNat = n - 1 := by
  rw [Int.add_comm]; exact Int.toNat_sub n 1
/-- the post kept behind a name -/
theorem hideQ {M : Model} {A : Around} {α : Type} {t : Sem α} {Q : α → Shared → Prop} {E : Value → Shared → Prop} {s : Shared} (h : ∀ R : α → Shared → Prop, (∀ a s, Q a s → R a s) → wpAny M A t R E s) : wpAny M A t Q E s := h Q fun _ _ h => h
/-- what a def does, called from any frame: the ledger before, the arguments; Ro says the ledger and the value after -/
noncomputable def Does (prog : Program) (w : World) (K : Frag) (p : Program) (loose : List Str) (mean : ExcName → Option Value) (mg mb : Str → Option Value) (f : Addr) (dep : Nat)
    (news : List (Addr × Obj)) (vs : List Value) (Ro : List (Addr × Obj) → Value → Prop) : Prop :=
  ∀ (dp un : Nat) (gd : Option (List Code)) (cn : Str) (cs : Scope) (a : Addr) (ccd : Value) (cl : List (Str × Addr)) (outer : List Env) (A₀ : Around) (base h₀ : Heap) (L : Addr) (m : Str → Option Value) (s : Shared) (Q E : Value → Shared → Prop),
    Below A₀ base outer h₀ → Fr h₀ L s.heap m → K.In h₀ → News h₀ L s.heap news → Top p loose mean mg mb h₀ → cs.kind = .function → dp + dep < recursionLimit → un + 8 * dep < cLine →
    (∀ (news' : List (Addr × Obj)) (r : Value) (h' : Heap) (tk' : Nat), Ro news' r → Fr h₀ L h' m → News h₀ L h' news' → Q r { s with heap := h', toks := tk' }) →
      wpAny (model prog w) (ktrTop dp un gd cn cs L a ccd cl outer) (call (.ref f) vs) Q E s
section
variable {prog : Program} {w : World} {K : Frag} {p : Program} {loose : List Str} {mean : ExcName → Option Value} {mg mb : Str → Option Value} {f : Addr} {dep : Nat} {news : List (Addr × Obj)} {vs : List Value} {Ro : List (Addr × Obj) → Value → Prop}
theorem Does.use {dp un : Nat} {gd : Option (List Code)} {cn : Str} {cs : Scope} {a : Addr} {ccd : Value} {cl : List (Str × Addr)} {outer : List Env} {A₀ : Around} {base h₀ : Heap} {L : Addr} {m : Str → Option Value} {s : Shared} {Q E : Value → Shared → Prop}
    (B : Below A₀ base outer h₀) (F : Fr h₀ L s.heap m) (X : K.In h₀) (N : News h₀ L s.heap news) (T : Top p loose mean mg mb h₀) (hk : cs.kind = .function) (hd : dp + dep < recursionLimit) (hu : un + 8 * dep < cLine)
    (D : Does prog w K p loose mean mg mb f dep news vs Ro)
    (h : ∀ (news' : List (Addr × Obj)) (r : Value) (h' : Heap) (tk' : Nat), Ro news' r → Fr h₀ L h' m → News h₀ L h' news' → Q r { s with heap := h', toks := tk' }) :
    wpAny (model prog w) (ktrTop dp un gd cn cs L a ccd cl outer) (call (.ref f) vs) Q E s := D dp un gd cn cs a ccd cl outer A₀ base h₀ L m s Q E B F X N T hk hd hu h
end
end

section
open PySem PySem.W PyProof.Rows PySem.Calls
theorem entry_isc : entryFor table "issubclass" = some Builtin.«issubclass» := by first | exact entryFor_of_fast (by kernel_rfl) | exact entryFor_of_tree (by kernel_rfl)
theorem entry_iscn : entryFor table "issubclass.nested" = some Builtin.«issubclass.nested» := by first | exact entryFor_of_fast (by kernel_rfl) | exact entryFor_of_tree (by kernel_rfl)
theorem kind_isc : builtinKind "issubclass" = none := by decide +kernel
theorem kind_iscn : builtinKind "issubclass.nested" = none := by decide +kernel
theorem plain_isc : plainId "issubclass" = true := by decide +kernel
theorem plain_iscn : plainId "issubclass.nested" = true := by decide +kernel
theorem args_isc (a b : Value) : argsOk "issubclass" ⟨[a, b], []⟩ := by unfold argsOk; kernel_rfl
theorem sub_str_str : isSubtype (.type "str") (.type "str") = pure true := by rw [isSubtype_type]; kernel_rfl
section
variable {prog : Program} {w : World} {A : Around} {E : Value → Shared → Prop} {s : Shared}
theorem isc_one {R : Result → Shared → Prop} {tk : Tok} (h : R (.ok (.ret (.bool true))) s) :
    codeAny (model prog w) A (.call (.builtin "issubclass.nested") ⟨[.type "str", .type "str", .int 1 tk], []⟩) R s := by
  refine codeAny_call_builtin plain_iscn entry_iscn ?_
  have f1 := sub_str_str
  have f2 : typeOf (.type "str") = pure (.type "type") := rfl
  obtain ⟨hh, g, d, t, os⟩ := s
  have hk := kind_iscn
  have ha : Manifest.signature? "issubclass.nested" = none := by kernel_rfl
  simp only [checkBuiltinCall, hk, ha]
  repeat (any_goals (first | assumption | wp_step))
theorem isc_str {Q : Value → Shared → Prop} {tp : Addr} (htp : s.heap.get? tp = some { cls := .type "tuple", data := .seq [Value.type "str", Value.type "bytes"].toArray }) (h : Q (.bool true) s) :
    wpAny (model prog w) A (call (.builtin "issubclass") [.type "str", .ref tp]) Q E s := by
  refine kmb_tree kind_isc plain_isc entry_isc (args_isc _ _) ?_
  obtain ⟨hh, g, d, t, os⟩ := s
  have f1 := F.isi_sub_tuple
  repeat (any_goals (first | assumption | wp_step))
  refine ⟨plainId_quiet plain_iscn _, codeAny_builtin entry_iscn ?_⟩
  rw [Around.under_plainId plain_iscn _]
  have hT2 : (⟨hh, g, d, t, os⟩ : Shared).TypeIs (.ref tp) "tuple" := ⟨_, htp, rfl⟩
  repeat (any_goals (first | assumption | wp_step))
  refine isc_one ?_
  repeat (any_goals (first | assumption | wp_step))
end
end

section
open PySem PySem.W PyProof.Rows PySem.Calls
section
variable {prog : Program} {w : World} {A : Around} {E : Value → Shared → Prop} {s : Shared} {h₀ : Heap} {L D : Addr} {m : Str → Option Value} {nw nw' : List (Addr × Obj)} {vs : List Value} {ss : List Str} {n : Nat}
theorem lst_at (N : News h₀ L s.heap nw) (hm : (D, listOf vs.toArray n) ∈ nw) : s.heap.IsList D vs.toArray := ⟨_, (N _ hm).1, rfl, n, rfl⟩
theorem tru_strs {Q : Bool → Shared → Prop} (N : News h₀ L s.heap nw) (hm : (D, listOf vs.toArray n) ∈ nw) (hi : StrsAre vs ss) (hb : ss.length ≤ 1000000)
    (h : Q (!ss.isEmpty) { s with toks := s.toks + 1 + 1 }) : wpAny (model prog w) A (truthy (.ref D)) Q E s :=
  wpAny_truthy_list (lst_at N hm) (by rw [List.size_toArray, hi.len_eq]; lia) (by
    have e : (!vs.toArray.isEmpty) = !ss.isEmpty := by cases hi <;> simp
    rw [e]; exact h)
theorem strs_last (hi : StrsAre vs ss) (hne : ss ≠ []) : ∃ t, vs = vs.dropLast ++ [.str (ss.getLast hne) t] ∧ StrsAre vs.dropLast ss.dropLast := by
  induction hi with
  | nil => exact absurd rfl hne
  | cons y t r ih =>
    cases r with
    | nil => exact ⟨t, rfl, .nil⟩
    | cons y' t' r' =>
      refine Classical.byContradiction fun hng9 => ?_
      obtain ⟨u, h1, h2⟩ := ih (by simp)
      refine hng9 ?_
      clear hng9
      refine ⟨u, ?_, .cons _ _ h2⟩
      have := congrArg (List.cons (Value.str y t)) h1
      simpa using this
theorem item_last {value slice : Expr} {u : Tok} {Q : Value → Shared → Prop} (N : News h₀ L s.heap nw) (hm : (D, listOf vs.toArray n) ∈ nw) (hi : StrsAre vs ss) (hne : ss ≠ []) (hb : ss.length ≤ 1000000)
    (h : ∀ t, Q (.str (ss.getLast hne) t) s)
    (hs : subscripted slice false (.ref D) (.int (-1) u) = operate [.ref D, .int (-1) u] (getItem (.ref D) (.int (-1) u)) := by with_unfolding_all rfl) :
    wpAny (model prog w) A (subscriptTail value slice (.ref D) (.int (-1) u)) Q E s := by
  refine Classical.byContradiction fun hng9 => ?_
  obtain ⟨t, h1, h2⟩ := strs_last hi hne
  refine hng9 ?_
  clear hng9
  have hl := lst_at N hm
  have hlen := hi.len_eq
  have hpos : 0 < ss.length := List.length_pos_iff.mpr hne
  have hd : vs.dropLast.length = vs.length - 1 := by simp
  refine tail_any hl.typeIs slot_list_getitem.lookup (wpAny_getItem_list_neg hl (by lia) (by rw [List.size_toArray]; lia) (by lia) (x := .str (ss.getLast hne) t) ?_ (h t)) hs
  rw [List.size_toArray]
  have e : ((-1 : Int) + (vs.length : Nat)).toNat = vs.dropLast.length := by rw [hd]; exact neg1_nat _
  rw [e]
  have : vs[vs.dropLast.length]? = some (.str (ss.getLast hne) t) := by
    conv => lhs; rw [h1]
    simp
  simpa using this
theorem pop_strs {Q : Value → Shared → Prop} (F : Fr h₀ L s.heap m) (N : News h₀ L s.heap nw) (hi : StrsAre vs ss) (hne : ss ≠ []) (hb : ss.length ≤ 1000000) (U : Upd D (listOf vs.toArray n) (listOf vs.dropLast.toArray (n + 1)) nw nw')
    (h : ∀ t h', Fr h₀ L h' m → News h₀ L h' nw' → StrsAre vs.dropLast ss.dropLast → Q (.str (ss.getLast hne) t) { s with heap := h' }) : wpAny (model prog w) A (call (.builtin "list.pop") [.ref D]) Q E s := by
  refine Classical.byContradiction fun hng9 => ?_
  obtain ⟨t, h1, h2⟩ := strs_last hi hne
  refine hng9 ?_
  clear hng9
  refine kl_pop F N (p := vs.dropLast) (y := .str (ss.getLast hne) t) ?_ U (by have := hi.len_eq; have := sizeLine_eq; simp; lia) fun h' F' N' => h t h' F' N' h2
  have e := kpa_last (.str (ss.getLast hne) t) vs.dropLast
  rw [← h1] at e
  simpa using e
theorem app_strs {x : Str} {t : Tok} {Q : Value → Shared → Prop} (F : Fr h₀ L s.heap m) (N : News h₀ L s.heap nw) (hi : StrsAre vs ss) (hb : ss.length ≤ 1000000) (U : Upd D (listOf vs.toArray n) (listOf (vs ++ [Value.str x t]).toArray (n + 1)) nw nw')
    (h : ∀ h', Fr h₀ L h' m → News h₀ L h' nw' → StrsAre (vs ++ [Value.str x t]) (ss ++ [x]) → Q .none { s with heap := h' }) : wpAny (model prog w) A (call (.builtin "list.append") [.ref D, .str x t]) Q E s := by
  refine append_K (its := vs.toArray) (n := n) F N (by simpa using U) (fun h' F' N' => h h' F' N' (hi.append' (.cons _ _ .nil))) (by have := hi.len_eq; have := sizeLine_eq; simp; lia)
end
theorem allLt_ne {d : Addr} {l : List (Addr × Obj)} (h : AllLt d l) : ∀ p ∈ l, p.1 ≠ d := fun p hp => Nat.ne_of_lt (ktn_ltOf h p hp)
theorem ne_app {d : Addr} {l l' : List (Addr × Obj)} (h : ∀ p ∈ l, p.1 ≠ d) (h' : ∀ p ∈ l', p.1 ≠ d) : ∀ p ∈ l ++ l', p.1 ≠ d := fun p hp => (List.mem_append.mp hp).elim (h p) (h' p)
theorem own_ne {own : List (Addr × Obj)} {adr : List Addr} {b : Addr} (h : OwnOff own adr) (hb : b ∈ adr) : ∀ p ∈ own, p.1 ≠ b := fun p hp => h p hp b hb

section
variable {prog : Program} {w : World} {A : Around} {E : Value → Shared → Prop} {s : Shared} {env : Env} {h₀ : Heap} {x : Str} {body : List Stmt} {Q : Flow → Shared → Prop}
/-- a loop over a list of the ledger, whatever it holds; the state c, the turn's number i -/
theorem loop_vals {σ : Type} {l : Addr} {vs : List Value} {nn : Nat} {m₀ : Str → Option Value} {news : List (Addr × Obj)} (Led : σ → List (Addr × Obj)) (cst : List (Addr × Obj)) (ps : σ → List (Str × Value)) (Facts : List (Addr × Obj) → σ → Prop) (stored : List Str) (P : Nat → σ → Prop) (adr : List Addr) (c₀ : σ)
    (hh : A.handled = none) (hl : (l, listOf vs.toArray nn) ∈ cst) (F : Fr h₀ env.locals s.heap m₀) (N : News h₀ env.locals s.heap news) (hn : ∀ p ∈ Led c₀ ++ (cst ++ []), p ∈ news) (hadr : ∀ c, (Led c ++ cst).map (·.1) = adr) (hf : Facts (cst ++ []) c₀) (hk : ∀ p ∈ ps c₀, m₀ p.1 = some p.2) (hp : P 0 c₀)
    (turn : ∀ (c : σ) tl i v (u : Str → Option Value) h tk own, vs[i]? = some v → KdSep own tl adr → OwnOff (tl ++ own) adr → Facts (cst ++ tl) c → P i c →
      Fr h₀ env.locals h (fun y => if y = x then some v else kstB (fun z => if stored.contains z then u z else m₀ z) (ps c) y) → News h₀ env.locals h (Led c ++ (cst ++ (tl ++ own))) →
      wpAny (model prog w) A (execs body env) (InvPostG h₀ env.locals (KdS Led cst ps Facts x stored m₀ P adr (i + 1)) own { s with heap := h, toks := tk } Q) E { s with heap := h, toks := tk })
    (done : ∀ (c : σ) tl (u : Str → Option Value) h tk, OwnOff tl adr → Facts (cst ++ tl) c → P vs.length c → Fr h₀ env.locals h (fun y => if y = x then u y else kstB (fun z => if stored.contains z then u z else m₀ z) (ps c) y) → News h₀ env.locals h (Led c ++ (cst ++ tl)) → Q .next { s with heap := h, toks := tk }) :
    wpAny (model prog w) A (pyIter (.ref l)) (fun it s₂ => LoopAtV prog w A h₀ env x body Q E it s₂) E s := by
  refine kdl_iter (news := Led c₀ ++ (cst ++ [])) (fun i m nx => KdS Led cst ps Facts x stored m₀ P adr i m nx) hh (List.mem_append.mpr (.inr (List.mem_append.mpr (.inl hl)))) F (fun p hp => N p (hn p hp)) ⟨c₀, [], rfl, fun _ hp => (nomatch hp), hf, hk, fun _ _ _ _ => rfl, hp⟩ ?_ ?_
  · intro i v m₁ nx h tk own hv hoff _ hI9 F₁ N₁
    refine Classical.byContradiction fun hng9 => ?_
    obtain ⟨c, tl, rfl, ht, hf', h1, h2, hp'⟩ := hI9
    refine hng9 ?_
    clear hng9
    obtain ⟨o1, o2⟩ := kd_split (hadr c) hoff
    rw [List.append_assoc, List.append_assoc] at N₁
    refine wpAny_mono (turn c tl i v m₁ h tk own hv ⟨o1, o2, ht⟩ (kd_off o1 ht) hf' hp' (kst_fr h1 h2 F₁) N₁) (fun f s₂ p => ?_) fun _ _ e => e
    have fin : InvEndG h₀ env.locals (KdS Led cst ps Facts x stored m₀ P adr (i + 1)) own { s with heap := h, toks := tk } s₂ → InvEndG h₀ env.locals (fun m' nx => (l, listOf vs.toArray nn) ∈ nx ∧ KdS Led cst ps Facts x stored m₀ P adr (i + 1) m' nx) own { s with heap := h, toks := tk } s₂ := by
      intro hI9
      refine Classical.byContradiction fun hng9 => ?_
      obtain ⟨h', tk', m', news', nx, e, F', N', hn', ho, ha, hm⟩ := hI9
      refine hng9 ?_
      clear hng9
      refine ⟨h', tk', m', news', nx, e, F', N', hn', ho, ha, ?_, hm⟩
      refine Classical.byContradiction fun hng9 => ?_
      obtain ⟨c', tl', rfl, _⟩ := hm
      refine hng9 ?_
      clear hng9
      exact List.mem_append.mpr (.inr (List.mem_append.mpr (.inl hl)))
    cases f with
    | ret v => exact p
    | brk => exact p
    | next => exact fin p
    | cont => exact fin p
  · intro m₁ nx h tk hI9 F₁ N₁
    refine Classical.byContradiction fun hng9 => ?_
    obtain ⟨c, tl, rfl, ht, hf', h1, h2, hp'⟩ := hI9
    refine hng9 ?_
    clear hng9
    exact done c tl m₁ h tk ht hf' hp' (kst_frOut h1 h2 F₁) N₁
end

noncomputable def Stuck (P : Prop) : Prop := P
theorem stuck_at {P : Prop} (h : Stuck P) : P := h

section
variable {σ τ : Type} {Led : σ → List (Addr × Obj)} {cst : List (Addr × Obj)} {ps : σ → List (Str × Value)} {Facts : List (Addr × Obj) → σ → Prop} {stored : List Str} {x : Str} {m₀ : Str → Option Value} {P : τ → σ → Prop} {adr : List Addr} {pre : τ} {h₀ h' : Heap} {L : Addr} {m' : Str → Option Value} {own tl nw : List (Addr × Obj)} {s₁ : Shared} {tk : Nat}
/-- a turn's end: nothing kept beyond the state -/
theorem loop_end (c : σ) (h0 : KdSep own tl adr) (F : Fr h₀ L h' m') (N : News h₀ L h' nw) (hn : ∀ p ∈ Led c ++ (cst ++ (tl ++ own)), p ∈ nw) (hadr : (Led c ++ cst).map (·.1) = adr) (hk : ∀ p ∈ ps c, m' p.1 = some p.2)
    (hr : ∀ z, z ≠ x → (∀ p ∈ ps c, z ≠ p.1) → stored.contains z = false → m' z = m₀ z) (hf : Facts (cst ++ tl) c) (hp : P pre c) :
    InvEndG h₀ L (KdS Led cst ps Facts x stored m₀ P adr pre) own s₁ { s₁ with heap := h', toks := tk } :=
  kd_end c [] h0 F N (fun p hp => hn p (by
    rcases List.mem_append.mp hp with h | h
    · exact List.mem_append.mpr (.inl h)
    · rcases List.mem_append.mp h with h | h
      · exact List.mem_append.mpr (.inr (List.mem_append.mpr (.inl h)))
      · exact List.mem_append.mpr (.inr (List.mem_append.mpr (.inr (List.mem_append.mpr (.inl h))))))) (fun p hp => hn p (List.mem_append.mpr (.inr (List.mem_append.mpr (.inr (List.mem_append.mpr (.inr hp))))))) hadr (fun _ h => nomatch h) (fun _ h => nomatch h) hk hr hf hp
end

theorem bind_star {K : Frag} {S : Setting} {fd : FuncData} {a r : Arg} {v : Value} {ws : List Value} (hp : fd.params = { posonlyargs := [], args := [a], vararg := some r, kwonlyargs := [], kw_defaults := [], kwarg := none, defaults := [] })
    (hd : fd.defaults = .none) (hz : ws.length ≤ sizeLine) (ha : a.arg = Str.ofString "a") (hr : r.arg = Str.ofString "p") :
    peek1 K S (bindArgs fd ⟨v :: ws, []⟩) = some (({ cls := .type "tuple", data := .seq ws.toArray } : Obj), fun D => some [(a.arg, v), (r.arg, .ref D)]) := by
  have hz' : ¬ (ws.toArray.size > sizeLine) := by rw [List.size_toArray]; exact Nat.not_lt.mpr hz
  have e2 : newTuple ws = (do let a ← alloc { cls := .type "tuple", data := .seq ws.toArray }; return .ref a) := by
    unfold newTuple newObj
    dsimp only
    rw [if_neg hz']
    rfl
  refine Classical.byContradiction fun hng9 => ?_
  obtain ⟨name, qual, params, body, scope, dV, kV, doc, cl, ct, oc, an, od, osl⟩ := fd
  refine hng9 ?_
  clear hng9
  refine Classical.byContradiction fun hng9 => ?_
  obtain ⟨aa, _, _⟩ := a
  refine hng9 ?_
  clear hng9
  refine Classical.byContradiction fun hng9 => ?_
  obtain ⟨rr, _, _⟩ := r
  refine hng9 ?_
  clear hng9
  dsimp only at hp hd ha hr
  subst hp hd ha hr
  cases ws with
  | nil =>
    show peek1 K S (newTuple [] >>= fun t => pure [(Str.ofString "a", v), (Str.ofString "p", t)]) = _
    rw [e2]
    rfl
  | cons x l =>
    show peek1 K S (newTuple (x :: l) >>= fun t => pure [(Str.ofString "a", v), (Str.ofString "p", t)]) = _
    rw [e2]
    rfl

section
variable {prog : Program} {w : World} {A : Around} {E : Value → Shared → Prop} {s : Shared} {env : Env} {h₀ : Heap} {x : Str} {body : List Stmt} {Q : Flow → Shared → Prop}
/-- a loop over one source object t of the ledger that stays as it is (a list, a tuple) -/
theorem src_iter {t : Addr} {ob oI : Obj} {n : Nat} {P : Nat → Value → Prop} {St : Nat → Heap → Prop} {m₀ : Str → Option Value} {news : List (Addr × Obj)} (J : Nat → (Str → Option Value) → List (Addr × Obj) → Prop)
    (W : Walks prog w A s.heap.objs.size [s.heap.objs.size, t] [s.heap.objs.size] n P St) (ht : (t, ob) ∈ news) (hst : St 0 (s.heap.push oI)) (hIo : ∀ i h, St i h → ∃ o, h.get? s.heap.objs.size = some o)
    (F : Fr h₀ env.locals s.heap m₀) (N : News h₀ env.locals s.heap news) (hj : J 0 m₀ news)
    (turn : ∀ i v m₁ news₁ h tk own, P i v → OwnOff own (news₁.map (·.1)) → (t, ob) ∈ news₁ → J i m₁ news₁ → Fr h₀ env.locals h (fun y => if y = x then some v else m₁ y) → News h₀ env.locals h (news₁ ++ own) →
      wpAny (model prog w) A (execs body env) (InvPostG h₀ env.locals (fun m' nx => (t, ob) ∈ nx ∧ J (i + 1) m' nx) own { s with heap := h, toks := tk } Q) E { s with heap := h, toks := tk })
    (done : ∀ m₁ news₁ h tk, J n m₁ news₁ → Fr h₀ env.locals h m₁ → News h₀ env.locals h news₁ → Q .next { s with heap := h, toks := tk }) :
    LoopAtV prog w A h₀ env x body Q E (.ref s.heap.objs.size) { s with heap := s.heap.push oI } := by
  have up : ∀ b o, s.heap.get? b = some o → (s.heap.push oI).get? b = some o := fun b o e => Heap.get?_push_of_some _ e
  have new0 : h₀.get? s.heap.objs.size = none := next_is_new F
  have htn := N _ ht
  have apart : ∀ p ∈ news, p.1 ∉ [s.heap.objs.size] := fun p hp hq => absurd (Heap.lt_size (N p hp).1) ((List.mem_singleton.mp hq) ▸ Nat.lt_irrefl _)
  have hLI : env.locals ∉ [s.heap.objs.size, t] := by
    intro hq
    rcases List.mem_cons.mp hq with e | hq
    · exact absurd F.ns.lt (e ▸ Nat.lt_irrefl _)
    · exact htn.2.1 (List.mem_singleton.mp hq).symm
  refine ⟨s.heap.objs.size, _, _, n, P, St, m₀, news, fun i m nx => (t, ob) ∈ nx ∧ J i m nx, rfl, W, hLI, fun b hb => by rw [List.mem_singleton.mp hb]; exact new0, apart, hst, F.push _, fun p hp => ⟨up _ _ (N p hp).1, (N p hp).2⟩, ⟨ht, hj⟩, ?_, ?_⟩
  · rintro i v m₁ news₁ s₁ own ⟨hh, tk, rfl⟩ _ hP ⟨ht₁, hJ⟩ hoff hin hat hall hst₁ F₁ N₁
    obtain ⟨oi, hoi⟩ := hIo _ _ hst₁
    have hIin : (s.heap.objs.size, oi) ∈ own := hall _ (List.mem_cons.mpr (.inl rfl)) new0 _ hoi
    let own' := own.filter fun p => decide (p.1 = s.heap.objs.size)
    have hI' : ∀ p ∈ own', p.1 = s.heap.objs.size := fun p hp => by simpa using (List.mem_filter.mp hp).2
    have sep : OwnOff own' (news₁.map (·.1)) := by
      intro p hp b hb e
      refine Classical.byContradiction fun hng9 => ?_
      obtain ⟨q, hq, rfl⟩ := List.mem_map.mp hb
      refine hng9 ?_
      clear hng9
      exact hoff q hq (List.mem_singleton.mpr (e ▸ hI' p hp))
    have N₂ : News h₀ env.locals hh (news₁ ++ own') := fun p hp => N₁ p ((List.mem_append.mp hp).elim (fun h => List.mem_append.mpr (.inr h)) fun h => List.mem_append.mpr (.inl (List.mem_filter.mp h).1))
    have hto : hh.get? t = some ob := (N₁ _ (List.mem_append.mpr (.inr ht₁))).1
    refine wpAny_mono (turn i v m₁ news₁ hh tk own' hP sep ht₁ hJ F₁ N₂) (fun f s₂ p => ?_) fun _ _ e => e
    have fin : InvEndG h₀ env.locals (fun m' nx => (t, ob) ∈ nx ∧ J (i + 1) m' nx) own' { s with heap := hh, toks := tk } s₂ →
        LoopStepU h₀ env.locals [s.heap.objs.size] own (fun m nx => (t, ob) ∈ nx ∧ J (i + 1) m nx) { s with heap := hh, toks := tk } .next s₂ := by
      intro hI9
      refine Classical.byContradiction fun hng9 => ?_
      obtain ⟨h', tk', m', news', nx, e, F', N', hn, ho, ha, hm⟩ := hI9
      refine hng9 ?_
      clear hng9
      refine ⟨rfl, h', tk', m', nx, e, F', fun p hp => ?_, fun p hp hq => ?_, hm⟩
      · rcases List.mem_append.mp hp with h | h
        · rcases List.mem_cons.mp (hin p h) with e1 | h1
          · exact N' p (ho p (List.mem_filter.mpr ⟨h, by simpa using e1⟩))
          · have e1 : p.1 = t := List.mem_singleton.mp h1
            have e2 : hh.get? p.1 = some p.2 := hat p h
            rw [e1, hto] at e2
            rw [show p = (t, ob) from Prod.ext e1 (Option.some.inj e2).symm]
            exact N' _ (hn _ hm.1)
        · exact N' p (hn p h)
      · exact ha _ (List.mem_filter.mpr ⟨hIin, by simp⟩) p.1 (List.mem_map.mpr ⟨p, hp, rfl⟩) (List.mem_singleton.mp hq).symm
    cases f with
    | ret v => exact .ret p
    | brk => exact .brk p
    | next => exact .next (fin p)
    | cont => exact .cont (fin p)
  · rintro h' tk m' news' F' N' _ ⟨_, hJ⟩
    exact done m' news' h' tk hJ F' N'

/-- a loop over a tuple of the ledger -/
theorem loop_tup {σ : Type} {l : Addr} {vs : List Value} {nn : Nat} {m₀ : Str → Option Value} {news : List (Addr × Obj)} (Led : σ → List (Addr × Obj)) (cst : List (Addr × Obj)) (ps : σ → List (Str × Value)) (Facts : List (Addr × Obj) → σ → Prop) (stored : List Str) (P : Nat → σ → Prop) (adr : List Addr) (c₀ : σ)
    (hh : A.handled = none) (hl : (l, ({ cls := .type "tuple", data := .seq vs.toArray nn } : Obj)) ∈ cst) (F : Fr h₀ env.locals s.heap m₀) (N : News h₀ env.locals s.heap news) (hn : ∀ p ∈ Led c₀ ++ (cst ++ []), p ∈ news) (hadr : ∀ c, (Led c ++ cst).map (·.1) = adr) (hf : Facts (cst ++ []) c₀) (hk : ∀ p ∈ ps c₀, m₀ p.1 = some p.2) (hp : P 0 c₀)
    (turn : ∀ (c : σ) tl i v (u : Str → Option Value) h tk own, vs[i]? = some v → KdSep own tl adr → OwnOff (tl ++ own) adr → Facts (cst ++ tl) c → P i c →
      Fr h₀ env.locals h (fun y => if y = x then some v else kstB (fun z => if stored.contains z then u z else m₀ z) (ps c) y) → News h₀ env.locals h (Led c ++ (cst ++ (tl ++ own))) →
      wpAny (model prog w) A (execs body env) (InvPostG h₀ env.locals (KdS Led cst ps Facts x stored m₀ P adr (i + 1)) own { s with heap := h, toks := tk } Q) E { s with heap := h, toks := tk })
    (done : ∀ (c : σ) tl (u : Str → Option Value) h tk, OwnOff tl adr → Facts (cst ++ tl) c → P vs.length c → Fr h₀ env.locals h (fun y => if y = x then u y else kstB (fun z => if stored.contains z then u z else m₀ z) (ps c) y) → News h₀ env.locals h (Led c ++ (cst ++ tl)) → Q .next { s with heap := h, toks := tk }) :
    wpAny (model prog w) A (pyIter (.ref l)) (fun it s₂ => LoopAtV prog w A h₀ env x body Q E it s₂) E s := by
  have N0 : News h₀ env.locals s.heap (Led c₀ ++ (cst ++ [])) := fun p hp => N p (hn p hp)
  have hl0 : (l, ({ cls := .type "tuple", data := .seq vs.toArray nn } : Obj)) ∈ Led c₀ ++ (cst ++ []) := List.mem_append.mpr (.inr (List.mem_append.mpr (.inl hl)))
  have hol := (N0 _ hl0).1
  have hit : s.heap.IsTuple l vs.toArray := ⟨_, hol, rfl, nn, rfl⟩
  have hne : l ≠ s.heap.objs.size := Nat.ne_of_lt (Heap.lt_size hol)
  have W := Walks.tuple (prog := prog) (w := w) hh s.heap.objs.size l hne vs.toArray
  rw [List.size_toArray] at W
  refine wpAny_pyIter_tuple hit (src_iter (fun i m nx => KdS Led cst ps Facts x stored m₀ P adr i m nx) W hl0 ⟨⟨_, Heap.get?_push_size _ rfl, rfl, rfl⟩, hit.push _⟩ (fun i h st => by obtain ⟨o, e, _⟩ := st.1; exact ⟨o, e⟩) F N0 ⟨c₀, [], rfl, fun _ hp => (nomatch hp), hf, hk, fun _ _ _ _ => rfl, hp⟩ ?_ ?_)
  · intro i v m₁ nx h tk own hv hoff _ hI9 F₁ N₁
    refine Classical.byContradiction fun hng9 => ?_
    obtain ⟨c, tl, rfl, ht, hf', h1, h2, hp'⟩ := hI9
    refine hng9 ?_
    clear hng9
    obtain ⟨o1, o2⟩ := kd_split (hadr c) hoff
    rw [List.append_assoc, List.append_assoc] at N₁
    refine wpAny_mono (turn c tl i v m₁ h tk own (by simpa using hv) ⟨o1, o2, ht⟩ (kd_off o1 ht) hf' hp' (kst_fr h1 h2 F₁) N₁) (fun f s₂ p => ?_) fun _ _ e => e
    have fin : InvEndG h₀ env.locals (KdS Led cst ps Facts x stored m₀ P adr (i + 1)) own { s with heap := h, toks := tk } s₂ → InvEndG h₀ env.locals (fun m' nx => (l, ({ cls := .type "tuple", data := .seq vs.toArray nn } : Obj)) ∈ nx ∧ KdS Led cst ps Facts x stored m₀ P adr (i + 1) m' nx) own { s with heap := h, toks := tk } s₂ := by
      intro hI9
      refine Classical.byContradiction fun hng9 => ?_
      obtain ⟨h', tk', m', news', nx, e, F', N', hn', ho, ha, hm⟩ := hI9
      refine hng9 ?_
      clear hng9
      refine ⟨h', tk', m', news', nx, e, F', N', hn', ho, ha, ?_, hm⟩
      refine Classical.byContradiction fun hng9 => ?_
      obtain ⟨c', tl', rfl, _⟩ := hm
      refine hng9 ?_
      clear hng9
      exact List.mem_append.mpr (.inr (List.mem_append.mpr (.inl hl)))
    cases f with
    | ret v => exact p
    | brk => exact p
    | next => exact fin p
    | cont => exact fin p
  · intro m₁ nx h tk hI9 F₁ N₁
    refine Classical.byContradiction fun hng9 => ?_
    obtain ⟨c, tl, rfl, ht, hf', h1, h2, hp'⟩ := hI9
    refine hng9 ?_
    clear hng9
    exact done c tl m₁ h tk ht hf' hp' (kst_frOut h1 h2 F₁) N₁
end

/-- the answer is a new list of texts -/
noncomputable def LiO (news : List (Addr × Obj)) (l : List Str) (n : List (Addr × Obj)) (r : Value) : Prop :=
  ∃ (D : Addr) (ws : List Value) (k : Nat), r = .ref D ∧ n = (D, listOf ws.toArray k) :: news ∧ StrsAre ws l ∧ AllLt D news
/-- the answer is a new pair of texts -/
noncomputable def PrO (news : List (Addr × Obj)) (a b : Str) (n : List (Addr × Obj)) (r : Value) : Prop :=
  ∃ (D : Addr) (t1 t2 : Tok), r = .ref D ∧ n = (D, { cls := .type "tuple", data := .seq #[.str a t1, .str b t2] }) :: news ∧ AllLt D news
theorem pr_mk {news : List (Addr × Obj)} {p : Str × Str} {a b : Str} {D : Addr} {t1 t2 : Tok} (e : p = (a, b)) (l : AllLt D news) :
    PrO news p.1 p.2 ((D, { cls := .type "tuple", data := .seq #[.str a t1, .str b t2] }) :: news) (.ref D) := ⟨D, t1, t2, rfl, by rw [e], l⟩

section
variable {prog : Program} {w : World} {A : Around} {E : Value → Shared → Prop} {s : Shared} {h₀ : Heap} {L a b : Addr} {m : Str → Option Value} {nw : List (Addr × Obj)} {vs ws : List Value} {n k : Nat} {Q : Value → Shared → Prop}
theorem add_vals (F : Fr h₀ L s.heap m) (N : News h₀ L s.heap nw) (ha : (a, listOf vs.toArray n) ∈ nw) (hb : (b, listOf ws.toArray k) ∈ nw) (hz : vs.length + ws.length ≤ 1000000)
    (h : ∀ D h', Fr h₀ L h' m → News h₀ L h' ((D, listOf (vs ++ ws).toArray 0) :: nw) → (∀ p ∈ nw, p.1 < D) → Q (.ref D) { s with heap := h' }) :
    wpAny (model prog w) A (binaryOp .Add (.ref a) (.ref b)) Q E s :=
  kmk_add_lit F N (lst_at N ha) (lst_at N hb) (by simp) h (by rw [sizeLine_eq]; simp; lia)
end
end

section
open PySem PySem.W PyProof.Rows PySem.Calls
noncomputable abbrev bndApp (D : Addr) : Obj := { cls := .type "builtin_function_or_method", data := .fields #[.builtin "list.append", .ref D] }
theorem slot_md_get : Slot "method_descriptor" "__get__" "method_descriptor.__get__" :=
  .of (owner := "method_descriptor") (n := "__get__") (by rw [typeLookup_type, builtinLookup_eq_fast]; kernel_rfl) (by decide +kernel) (by decide +kernel) (by decide +kernel)
    (by first | exact .inl (by decide +kernel) | exact .inr (by decide +kernel)) (by rw [isSubtype_type]; kernel_rfl)
theorem entry_md_get : entryFor table "method_descriptor.__get__" = some Builtin.«method_descriptor.__get__» := entryFor_of_tree (by kernel_rfl)
theorem args_md_get (a b c : Value) : argsOk "method_descriptor.__get__" ⟨[a, b, c], []⟩ := by unfold argsOk; kernel_rfl
theorem md_set : typeLookup (.type "method_descriptor") "__set__" = pure none := by rw [typeLookup_type, builtinLookup_eq_fast]; kernel_rfl
theorem md_delete : typeLookup (.type "method_descriptor") "__delete__" = pure none := by rw [typeLookup_type, builtinLookup_eq_fast]; kernel_rfl
theorem owner_list_append : (".".intercalate ("list.append".cutAt '.').dropLast) = "list" := by
  have e0 : "list.append".cutAt '.' = ["list", "append"] := by first | rfl | decide +kernel
  rw [e0]; decide +kernel
theorem sub_list_list : isSubtype (.type "list") (.type "list") = pure true := by rw [isSubtype_type]; kernel_rfl
section
variable {prog : Program} {w : World} {A : Around} {E : Value → Shared → Prop} {h : Heap} {g : Array GenState} {d : Drawn} {t : Nat} {os : OsState} {a : Addr} {o : Obj}
theorem app_get {R : Result → Shared → Prop} (hx : h.get? a = some o) (hc : o.cls = .type "list") (hq : R (.ok (.ret (.ref h.objs.size))) ⟨h.push (bndApp a), g, d, t, os⟩) :
    codeAny (model prog w) A (.call (.builtin "method_descriptor.__get__") ⟨[.builtin "list.append", .ref a, .type "list"], []⟩) R ⟨h, g, d, t, os⟩ := by
  have hT : (⟨h, g, d, t, os⟩ : Shared).TypeIs (.ref a) "list" := ⟨_, hx, hc⟩
  have hT5 : (⟨h, g, d, t, os⟩ : Shared).TypeIs (.builtin "list.append") "method_descriptor" := PySem.F.type_list_append
  have f8 : isSubtype (.type "list") (.type (".".intercalate ("list.append".cutAt '.').dropLast)) = pure true := by rw [owner_list_append]; exact sub_list_list
  refine codeAny_call_builtin slot_md_get.plain entry_md_get (slot_md_get.check _ _ _ _ _ _ _ _ hT5 (args_md_get _ _ _) ?_)
  repeat wp_step
  exact hq
theorem app_entry {tk : Tok} {Q : Fin → Shared → Prop} {its : Array Value} {n : Nat} (hx : h.get? a = some (listOf its n)) (hq : Q (.done (.ret (.ref h.objs.size))) ⟨h.push (bndApp a), g, d, t, os⟩) :
    wpAny (model prog w) A (Builtin.«object.__getattribute__» ⟨[.ref a, .str "append" tk], []⟩) Q E ⟨h, g, d, t, os⟩ := by
  have hT : (⟨h, g, d, t, os⟩ : Shared).TypeIs (.ref a) "list" := ⟨_, hx, rfl⟩
  have hT5 : (⟨h, g, d, t, os⟩ : Shared).TypeIs (.builtin "list.append") "method_descriptor" := PySem.F.type_list_append
  have f4 := PySem.F.slot_list_append.lookup
  have f5 := PySem.F.type_list_append
  have f6 := slot_md_get.lookup
  have f7 := md_set
  have f8 := md_delete
  repeat wp_step
  refine app_get hx rfl ?_
  repeat wp_step
  exact hq
theorem app_attr {ex : Bool} {its : Array Value} {n : Nat} {Q : Value → Shared → Prop} (hx : h.get? a = some (listOf its n)) (hq : Q (.ref h.objs.size) ⟨h.push (bndApp a), g, d, t + 1, os⟩) :
    wpAny (model prog w) A (getAttr (.ref a) "append" ex) Q E ⟨h, g, d, t, os⟩ := by
  have hT : (⟨h, g, d, t + 1, os⟩ : Shared).TypeIs (.ref a) "list" := ⟨_, hx, rfl⟩
  have f2 := PySem.F.slot_list_getattribute.lookup
  have f3 := PySem.F.slot_list_getattribute.bind (.ref a)
  have hx0 : (ex && onTheHeap (Value.builtin "list.__getattribute__")) = false := by cases ex <;> rfl
  unfold getAttr getAttrBy
  repeat wp_step
  refine codeAny_call_builtin PySem.F.slot_list_getattribute.plain PySem.F.entry_list_ga (PySem.F.slot_list_getattribute.check _ _ _ _ _ _ _ _ hT (PySem.F.args_list_getattribute_2 _ _) (app_entry hx ?_))
  repeat wp_step
  exact hq
end
section
variable {prog : Program} {w : World} {A : Around} {E : Value → Shared → Prop} {s : Shared} {h₀ : Heap} {L D : Addr} {m : Str → Option Value} {nw : List (Addr × Obj)}
/-- add = res.append: the bound method -/
theorem app_bound {ex : Bool} {its : Array Value} {n : Nat} {Q : Value → Shared → Prop} (F : Fr h₀ L s.heap m) (N : News h₀ L s.heap nw) (hm : (D, listOf its n) ∈ nw)
    (h : ∀ B h', Fr h₀ L h' m → News h₀ L h' ((B, bndApp D) :: nw) → (∀ p ∈ nw, p.1 < B) → Q (.ref B) { s with heap := h', toks := s.toks + 1 }) : wpAny (model prog w) A (getAttr (.ref D) (PySem.Str.ofString "append") ex) Q E s :=
  app_attr (N.get hm) (h _ _ (F.push _) (N.push F _) fun p hp => Heap.lt_size (N p hp).1)
theorem bnd_keeps {B : Addr} (h : Heap) (X : h.get? B = some (bndApp D)) {M : Model} : ∃ k, (k = Keeper.frame ∨ k = Keeper.machine ∨ k = Keeper.boundFrame) ∧ Looks M h (keeperOf (.ref B)) k := by
  refine ⟨.machine, .inr (.inl rfl), (Looks.ld (part := none) X).andThen .now⟩
end
end

section
open PySem PySem.W PyProof.Rows PySem.Calls
noncomputable def BndAt (B D : Addr) (h : Heap) : Prop := h.get? B = some (bndApp D)
section
variable {prog : Program} {w : World} {M : Model} {A : Around} {E : Value → Shared → Prop} {s : Shared} {h₀ : Heap} {L B D : Addr} {m : Str → Option Value} {nw nw' : List (Addr × Obj)}
theorem callWith_bnd {env : Env} {pos : Pos} {first : List Value} {e : Expr} {rest : List Expr} {Q : Value → Shared → Prop} (_N : News h₀ L s.heap nw) (_hm : (B, bndApp D) ∈ nw)
    (h : wpAny M A (spliced (backTo pos (starEach (e :: rest) env))) (fun vs s₁ => BndAt B D s₁.heap ∧ wpAny M A (call (.ref B) (first ++ vs)) Q E s₁) E s)
    (he : starEach (e :: rest) env = (false, eval e env) :: starEach rest env := by rfl) (hplain : (backTo pos (starEach rest env)).any (·.1) = false := by rfl) :
    wpAny M A (callWith pos (.ref B) first (backTo pos (starEach (e :: rest) env)) []) Q E s := by
  rw [he] at h ⊢
  exact callWith_of (P := BndAt B D) (by show ((false || (backTo pos (starEach rest env)).any (·.1)) || false) = false; rw [hplain]; rfl) (fun h X => bnd_keeps h X) (evalArgs_plain h)
theorem call_bnd {its : Array Value} {n : Nat} {x : Value} {Q : Value → Shared → Prop} (F : Fr h₀ L s.heap m) (N : News h₀ L s.heap nw) (hB : (B, bndApp D) ∈ nw) (U : Upd D (listOf its n) (listOf (its.push x) (n + 1)) nw nw')
    (h : ∀ h', Fr h₀ L h' m → News h₀ L h' nw' → Q .none { s with heap := h' }) (hsz : its.size ≤ sizeLine := by size_fits) : wpAny (model prog w) A (call (.ref B) [x]) Q E s := by
  have hU := U.split
  obtain ⟨pre, post, e1, e2, a, b⟩ := hU
  have hD : (D, listOf its n) ∈ nw := by rw [e1]; exact List.mem_append.mpr (.inr (.head _))
  have zD := N _ hD
  have hb := N.get hB
  have main : ∀ h', Heap.SameBut D s.heap h' → h'.get? D = some (listOf (its.push x) (n + 1)) → Q .none { s with heap := h' } := fun h' hs ho' => by
    refine h h' (F.change hs zD.2.1 zD.2.2) ?_
    rw [e2]
    exact news_set (by rw [← e1]; exact N) a b hs ho'
  refine wpAny_call (codeAny_of_tree ?_)
  show wpAny _ (A.under (.call (.ref B) ⟨[x], []⟩)) (callAny (.ref B) ⟨[x], []⟩) _ _ s
  simp only [callAny]
  refine wpAny_bind (wpAny_load hb ?_)
  refine wpAny_ite_true rfl ?_
  have hT : s.TypeIs (.ref D) "list" := ⟨_, zD.1, rfl⟩
  have f1 : isSubtype (.type "list") (.type "module") = pure false := by rw [isSubtype_type]; kernel_rfl
  have f2 : isSubtype (.type "list") (.type "type") = pure false := by rw [isSubtype_type]; kernel_rfl
  obtain ⟨hh, g, d, t, os⟩ := s
  have chk : ∀ {R : Unit → Shared → Prop} {A' : Around} {E' : Value → Shared → Prop}, R () ⟨hh, g, d, t, os⟩ → wpAny (model prog w) A' (checkBoundCall "list.append" ⟨[.ref D, x], []⟩) R E' ⟨hh, g, d, t, os⟩ := by
    intro R A' E' hR
    have hT9 : (⟨hh, g, d, t, os⟩ : Shared).TypeIs (.ref D) "list" := hT
    unfold checkBoundCall
    have hz9 : hh.get? D = some (listOf its n) := zD.1
    repeat wp_step
    exact hR
  refine wpAny_bind (chk ?_)
  refine wpAny_bind (wpAny_pure (wpAny_pure ⟨plainId_quiet slot_list_append.plain _, codeAny_builtin entry_list_append ?_⟩))
  show wpAny _ _ (updateSeq D (·.push x) >>= fun _ => ret .none) _ _ _
  refine wpAny_bind ?_
  refine wpAny_updateSeq zD.1 rfl (wpAny_pure (main _ (Heap.SameBut.update ..) ?_))
  rw [Heap.get?_update_self _ zD.1 (by rw [mapSeq_push]; rfl), mapSeq_push]
end
end

section
open PySem PySem.W PyProof.Rows PySem.Calls PySem.Builtin.Re
theorem slot_sub : Slot "re.Pattern" "sub" "re.Pattern.sub" :=
  .of (owner := "re.Pattern") (n := "sub") (by rw [typeLookup_type, builtinLookup_eq_fast]; kernel_rfl) (by decide +kernel) (by decide +kernel) (by decide +kernel)
    (by first | exact .inl (by decide +kernel) | exact .inr (by decide +kernel)) (by rw [isSubtype_type]; kernel_rfl)
theorem entry_sub : entryFor table "re.Pattern.sub" = some Builtin.«re.Pattern.sub» := entryFor_of_tree (by kernel_rfl)
theorem entry_subloop : entryFor table "re.Pattern.sub.loop" = some Builtin.«re.Pattern.sub.loop» := entryFor_of_tree (by kernel_rfl)
theorem args_sub (a b c : Value) : argsOk "re.Pattern.sub" ⟨[a, b, c], []⟩ := by unfold argsOk; kernel_rfl
theorem type_sub : typeOf (.builtin "re.Pattern.sub") = pure (.type "method_descriptor") := by kernel_rfl
theorem slot_group : Slot "re.Match" "group" "re.Match.group" :=
  .of (owner := "re.Match") (n := "group") (by rw [typeLookup_type, builtinLookup_eq_fast]; kernel_rfl) (by decide +kernel) (by decide +kernel) (by decide +kernel)
    (by first | exact .inl (by decide +kernel) | exact .inr (by decide +kernel)) (by rw [isSubtype_type]; kernel_rfl)
theorem entry_group : entryFor table "re.Match.group" = some Builtin.«re.Match.group» := entryFor_of_tree (by kernel_rfl)
theorem args_group (a b : Value) : argsOk "re.Match.group" ⟨[a, b], []⟩ := by unfold argsOk; kernel_rfl
theorem type_group : typeOf (.builtin "re.Match.group") = pure (.type "method_descriptor") := by kernel_rfl
theorem plain_pattern : PlainAttrs "re.Pattern" :=
  ⟨⟨"object.__getattribute__", by rw [typeLookup_type, builtinLookup_eq_fast]; kernel_rfl, by decide +kernel⟩, by rw [typeLookup_type, builtinLookup_eq_fast]; kernel_rfl⟩
theorem plain_match : PlainAttrs "re.Match" :=
  ⟨⟨"object.__getattribute__", by rw [typeLookup_type, builtinLookup_eq_fast]; kernel_rfl, by decide +kernel⟩, by rw [typeLookup_type, builtinLookup_eq_fast]; kernel_rfl⟩
/-- the engine's turns until it answers -/
noncomputable def driveM : Nat → Sre.M → Option Sre.M
  | 0, _ => none
  | k + 1, m => if (m.runFor reTurnSteps).outcome.isSome then some (m.runFor reTurnSteps) else driveM k (m.runFor reTurnSteps)
noncomputable def runM (m : Sre.M) : Option (Option Sre.M) := match driveM 300 m with
  | some m' => (match m'.outcome with | some .matched => some (some m') | some .failed => some none | _ => none)
  | none => none
section
variable {M : Model} {A : Around} {E : Value → Shared → Prop} {s : Shared}
theorem wp_drive {Q : Sre.M → Shared → Prop} : ∀ (k n : Nat) (m m' : Sre.M), driveM k m = some m' → k ≤ n → Q m' s → wpAny M A (reDrive n m) Q E s
  | 0, _, _, _, h, _, _ => by cases h
  | k + 1, 0, _, _, _, h, _ => by lia
  | k + 1, n + 1, m, m', h, hn, hq => by
    unfold driveM at h
    unfold reDrive
    by_cases hc : (m.runFor reTurnSteps).outcome.isSome = true
    · rw [if_pos hc] at h
      cases h
      simp only [hc, if_true]
      exact wpAny_pure hq
    · rw [if_neg hc] at h
      simp only [hc]
      exact wpAny_bind (wpAny_rule (wp_drive k n _ _ h (by lia) hq))
theorem wp_rules {Q : PUnit → Shared → Prop} (body : Nat → PUnit → Sem (ForInStep PUnit)) (hb : ∀ i, (∃ t, body i ⟨⟩ = (rule t >>= fun _ => pure (ForInStep.yield PUnit.unit))) ∨ body i ⟨⟩ = pure (ForInStep.yield PUnit.unit)) : ∀ (l : List Nat), Q ⟨⟩ s → wpAny M A (forIn l PUnit.unit body) Q E s
  | [], hq => by rw [List.forIn_nil]; exact wpAny_pure hq
  | i :: l, hq => by
    rw [List.forIn_cons]
    rcases hb i with ⟨t, e⟩ | e
    · rw [e]
      exact wpAny_bind (wpAny_bind (wpAny_rule (wpAny_pure (wp_rules body hb l hq))))
    · rw [e]
      exact wpAny_bind (wpAny_pure (wp_rules body hb l hq))
theorem wp_run {Q : Option Sre.M → Shared → Prop} {m : Sre.M} {r : Option Sre.M} (h : runM m = some r) (hq : Q r s) : wpAny M A (reRunToEnd m) Q E s := by
  unfold runM at h
  cases hd : driveM 300 m with
  | none => rw [hd] at h; cases h
  | some m' =>
    rw [hd] at h
    unfold reRunToEnd
    refine wpAny_bind (wp_drive 300 _ _ _ hd (by decide) ?_)
    refine wpAny_bind (wp_rules _ (fun i => ?_) _ ?_)
    · by_cases hc : m'.seen.has i = true
      · simp only [hc, if_true]; exact .inl ⟨_, rfl⟩
      · simp only [hc]; exact .inr rfl
    cases ho : m'.outcome with
    | none => simp only [ho] at h; cases h
    | some o => cases o with
      | matched => simp only [ho] at h ⊢; cases h; exact wpAny_pure hq
      | failed => simp only [ho] at h ⊢; cases h; exact wpAny_pure hq
      | stuck y => simp only [ho] at h; cases h
end
end

section
open PySem PySem.W PyProof.Rows PySem.Calls PySem.Spec
/-- a made generator over texts, ready to be drained: what it writes lies off the ledger -/
noncomputable def GenX (prog : Program) (w : World) (A : Around) (L a : Addr) (xs : List Str) (f : Str → Str) (news : List (Addr × Obj)) (s : Shared) : Prop :=
  ∃ fp wr g St, WalksS prog w A.in4 a fp wr (GenOnlyQ g) xs.length (fun j y => ∃ i, (List.range xs.length)[j]? = some i ∧ ∃ u, y = .str (f (xs.getD i "")) u) St ∧ St 0 s ∧ (∀ i s', St i s' → s'.TypeIs (.ref a) "generator") ∧ a ∈ fp ∧ (∀ b ∈ fp, b < s.heap.objs.size) ∧ (∀ b ∈ wr, L < b) ∧ ∀ b ∈ wr, ∀ q ∈ news, q.1 ≠ b
section
variable {prog : Program} {w : World} {A : Around} {E : Value → Shared → Prop} {s : Shared} {h₀ : Heap} {L c P : Addr} {m mg mb : Str → Option Value} {news : List (Addr × Obj)} {g : Obj → List (Addr × Obj)}
  {p : Program} {loose : List Str} {mean : ExcName → Option Value} {ps : Array Value}

theorem pass_all (n : Nat) : passing (fun _ => true) n 0 = List.range n := by
  unfold passing; simp

/-- the generators hold no frames, the outside is as it was -/
noncomputable def Bare (o : OsState) (s : Shared) : Prop := AllBare s.gens ∧ s.os = o
/-- the joined text of a made generator -/
theorem join_gen_K {sep : Str} {t : Tok} {a : Addr} {xs : List Str} {f : Str → Str} {Q : Value → Shared → Prop} (F : Fr h₀ L s.heap m) (N : News h₀ L s.heap news) (X : GenX prog w A L a xs f news s)
    (hok : JoinOk sep (xs.map f) = true) (hsz : xs.length ≤ sizeLine)
    (h : ∀ s' t', (∀ o, Bare o s → Bare o s') → Fr h₀ L s'.heap m → News h₀ L s'.heap news → Q (.str (Txt.join sep (xs.map f)) t') s') : wpAny (model prog w) A (call (.builtin "str.join") [.str sep t, .ref a]) Q E s := by
  obtain ⟨fp, wr, g, St, W, hst, hT, ha, hfp, hwr, hoff⟩ := X
  have W := W.in4_2
  refine SC.joinGen W hT hst hfp ha (fun j v hv => let ⟨_, _, u, e⟩ := hv; ⟨_, u, e⟩) (fun s' lt hm hacc => ?_) hsz
  have hl : lt.map (·.1) = xs.map f := by
    apply List.ext_getElem?
    intro j
    have hsz : lt.length = xs.length := by simpa [strValues] using hacc.1
    by_cases hj : j < xs.length
    · have hj' : j < lt.length := hsz ▸ hj
      obtain ⟨i, hi, u, hv⟩ := hacc.2 j (.str lt[j].1 lt[j].2) (by simp [strValues, List.getElem?_eq_getElem hj'])
      have hi2 : i = j := by simpa [hj] using hi.symm
      subst hi2
      injection hv with h1 _
      simp [List.getElem?_eq_getElem hj', hj, h1, List.getD_eq_getElem?_getD]
    · rw [List.getElem?_eq_none (by simpa [hsz] using Nat.le_of_not_lt hj), List.getElem?_eq_none (by simpa using Nat.le_of_not_lt hj)]
  rw [hl]
  have f1 := F.moved hm hwr
  have n1 : News h₀ L s'.heap news := fun q hq => ⟨hm.heap _ _ (fun hb => hoff _ hb q hq rfl) (N q hq).1, (N q hq).2⟩
  exact ⟨hok, fun t' k => h { s' with toks := k } t' (fun o hB => ⟨hB.1.moved hm.gens, hm.os.trans hB.2⟩) f1 n1⟩
end
end

section
open PySem PySem.W PyProof.Rows PySem.Calls PySem.Builtin.Re
noncomputable def spanM (m : Sre.M) : Option (Nat × Nat) :=
  if (1 : Int) ≤ m.lastmark then (match m.marks.getD 0 none, m.marks.getD 1 none with | some b, some e => if e < b then none else some (b, e) | _, _ => none) else none
noncomputable def subGo (code : Array Nat) (x : Str) : Nat → Nat → Bool → Option (List Str)
  | 0, _, _ => none
  | fuel + 1, done, must => match runM (Sre.forSearch code x.cps 1 done x.cps.size must) with
    | none => none
    | some none => some (if done < x.cps.size then [⟨x.cps.extract done x.cps.size⟩] else [])
    | some (some m) => match spanM m with
      | none => none
      | some (b, e) => (subGo code x fuel m.handed (m.handed == m.start)).map fun r => (if done < m.start then [⟨x.cps.extract done m.start⟩] else []) ++ ⟨#[92] ++ x.cps.extract b e⟩ :: r
theorem plain_subloop : plainId "re.Pattern.sub.loop" = true := by decide +kernel
section
variable {prog : Program} {w : World} {A : Around} {E : Value → Shared → Prop} {s : Shared}
theorem target_K {p ct : Addr} {po co : Obj} {fs : Array Value} {its : Array Value} {n : Nat} {x : Str} {tx : Tok} {Q : ReTarget → Shared → Prop} (hp : s.heap.get? p = some po) (hpd : po.data = .fields fs) (hcode : fs.getD 5 .none = .ref ct) (hwant : reRawNat (fs.getD 6 .none) = 0)
    (hc : s.heap.get? ct = some co) (hcd : co.data = .seq its n)
    (hq : Q { pattern := .ref p, string := .str x tx, code := (its.map reRawOf).map (·.toNat), text := x.cps, kind := 0, groups := reRawNat (fs.getD 2 .none), pos := 0, lim := x.cps.size } s) :
    wpAny (model prog w) A (reWholeTarget (.ref p) (.str x tx)) Q E s := by
  unfold reWholeTarget
  refine wpAny_bind (wpAny_fieldsOf hp hpd ?_)
  have ht : reTextOf (.str x tx) = pure (x.cps, 0) := rfl
  rw [ht]
  refine wpAny_bind (wpAny_pure ?_)
  dsimp only
  rw [hwant, hcode]
  rw [if_neg (by decide), if_neg (by decide)]
  have hn : reNoCollectionInside (.str x tx) 0 = pure () := rfl
  rw [hn]
  refine wpAny_bind (wpAny_pure ?_)
  unfold reRawItems
  refine wpAny_bind (wpAny_bind (wpAny_seqItems hc hcd ?_))
  exact wpAny_pure (wpAny_pure hq)
end
section
variable {prog : Program} {w : World} {A : Around} {E : Value → Shared → Prop} {s : Shared} {h₀ : Heap} {L : Addr} {m : Str → Option Value} {nw : List (Addr × Obj)}
theorem push_K {D : Addr} {its : Array Value} {n : Nat} {v : Value} {Q : Unit → Shared → Prop} (F : Fr h₀ L s.heap m) (N : News h₀ L s.heap ((D, listOf its n) :: nw)) (ap : ∀ q ∈ nw, q.1 ≠ D) (hsz : its.size ≤ 100000)
    (h : ∀ h', Fr h₀ L h' m → News h₀ L h' ((D, listOf (its.push v) (n + 1)) :: nw) → Q () { s with heap := h' }) : wpAny (model prog w) A (updateSeq D (·.push v)) Q E s := by
  have zD := N _ (.head _)
  have hz : its.size ≤ sizeLine := by rw [sizeLine_eq]; lia
  have hup : (s.heap.update D (Obj.mapSeq (·.push v))).get? D = some (listOf (its.push v) (n + 1)) := by rw [Heap.get?_update_self _ zD.1 (by rw [mapSeq_push]; rfl), mapSeq_push]
  exact wpAny_updateSeq zD.1 rfl (h _ (F.change (Heap.SameBut.update ..) zD.2.1 zD.2.2) (N.setHead ap (Heap.SameBut.update ..) hup))
noncomputable abbrev mobj (p : Addr) (x : Str) (tx : Tok) (lim : Nat) (li : Int) (tp : Addr) : Obj := { cls := .type "re.Match", data := .fields #[.str x tx, .ref p, rawInt (0 : Nat), rawInt lim, rawInt li, .ref tp] }
noncomputable abbrev mtup (a b c d : Nat) : Obj := { cls := .type "tuple", data := .seq #[rawInt a, rawInt b, rawInt c, rawInt d] }
/-- what a turn's function does to a found match -/
noncomputable def LamOk (prog : Program) (w : World) (A : Around) (h₀ : Heap) (L : Addr) (m : Str → Option Value) (nw : List (Addr × Obj)) (f p : Addr) (x : Str) (tx : Tok) : Prop :=
  ∀ (E : Value → Shared → Prop) (s : Shared) (nw' : List (Addr × Obj)) (a tp : Addr) (li : Int) (b0 e0 b e : Nat), Fr h₀ L s.heap m → News h₀ L s.heap nw' → (∀ q ∈ nw, q ∈ nw') → (a, mobj p x tx x.cps.size li tp) ∈ nw' → (tp, mtup b0 e0 b e) ∈ nw' →
    wpAny (model prog w) A (call (.ref f) [.ref a]) (fun v s' => ∃ u h tk, v = .str ⟨#[92] ++ x.cps.extract b e⟩ u ∧ s' = { s with heap := h, toks := tk } ∧ Fr h₀ L h m ∧ News h₀ L h nw') E s
theorem newMatch_K {M : Sre.M} {p : Addr} {x : Str} {tx : Tok} {lim b e : Nat} {Q : Value → Shared → Prop} (F : Fr h₀ L s.heap m) (N : News h₀ L s.heap nw) (hs : spanM M = some (b, e))
    (h : ∀ h' a tp, Fr h₀ L h' m → News h₀ L h' ((a, mobj p x tx lim M.lastindex tp) :: (tp, mtup M.start M.handed b e) :: nw) → Q (.ref a) { s with heap := h' }) :
    wpAny (model prog w) A (reNewMatch (.ref p) (.str x tx) 1 0 lim M) Q E s := by
  unfold spanM at hs
  split at hs
  · rename_i hl
    split at hs
    · rename_i b' e' h1 h2
      split at hs
      · cases hs
      · rename_i hlt
        cases hs
        unfold reNewMatch
        have hr : List.range 1 = [0] := rfl
        have hl' : ((2 * 0 + 1 : Nat) : Int) ≤ M.lastmark := hl
        rw [hr]
        simp only [List.flatMap_cons, List.flatMap_nil, List.any_cons, List.any_nil, Nat.mul_zero, Nat.zero_add, hl', if_true, h1, h2, decide_true, decide_eq_true_eq, hlt, Bool.or_false, Bool.true_and, List.append_nil]
        simp only [newTuple, newFields]
        refine wpAny_bind (wpAny_newObj_type ?_ (by size_fits))
        refine wpAny_newObj_type ?_ (by size_fits)
        exact h _ _ _ ((F.push _).push _) (News.push (F.push _) (N.push F _) _)
    · cases hs
  · cases hs
theorem newsT {h : Heap} {q : Addr × Obj} (N : News h₀ L h (q :: nw)) : News h₀ L h nw := fun p hp => N p (.tail _ hp)
theorem strs_snoc {y : Str} {t : Tok} : ∀ {vs : List Value} {ys : List Str}, StrsAre vs ys → StrsAre (vs ++ [.str y t]) (ys ++ [y])
  | _, _, .nil => .cons y t .nil
  | _, _, .cons z u r => .cons z u (strs_snoc r)
theorem piece_K {o : OsState} {α : Type} {c : Prop} [Decidable c] {D : Addr} {x : Str} {b e : Nat} {k : Sem α} {Q : α → Shared → Prop} {vs : List Value} {xs : List Str} (hB : Bare o s) (F : Fr h₀ L s.heap m) (N : News h₀ L s.heap ((D, listOf vs.toArray vs.length) :: nw)) (ap : ∀ q ∈ nw, q.1 ≠ D)
    (hS : StrsAre vs xs) (hsz : vs.length ≤ 100000) (hy : (⟨x.cps.extract b e⟩ : Str).length ≤ sizeLine)
    (h : ∀ s' vs', Bare o s' → Fr h₀ L s'.heap m → News h₀ L s'.heap ((D, listOf vs'.toArray vs'.length) :: nw) → StrsAre vs' (xs ++ (if c then [⟨x.cps.extract b e⟩] else [])) → vs'.length ≤ vs.length + 1 → wpAny (model prog w) A k Q E s') :
    wpAny (model prog w) A (if c then (do let a ← reSlice x.cps 0 b e; updateSeq D (fun x => x.push a); k) else k) Q E s := by
  by_cases hc : c
  · rw [if_pos hc]
    rw [if_pos hc] at h
    have hsl : reSlice x.cps 0 b e = mkStr ⟨x.cps.extract b e⟩ := rfl
    rw [hsl]
    refine wpAny_bind (wpAny_mkStr ?_ hy)
    refine wpAny_bind (push_K F N ap (by simpa using hsz) fun h' F' N' => ?_)
    refine h _ (vs ++ [.str _ s.toks]) hB F' ?_ (strs_snoc hS) (by simp)
    simpa using N'
  · rw [if_neg hc]
    rw [if_neg hc, List.append_nil] at h
    exact h s vs hB F N hS (by lia)
theorem subloop_K {o : OsState} {code : Array Nat} {f p ct D : Addr} {po co : Obj} {fs its : Array Value} {n : Nat} {x : Str} {tx : Tok} {R : Result → Shared → Prop}
    (F₀ : h₀.get? p = some po) (hpd : po.data = .fields fs) (hct : fs.getD 5 .none = .ref ct) (hwant : reRawNat (fs.getD 6 .none) = 0) (hgr : reRawNat (fs.getD 2 .none) = 1)
    (C₀ : h₀.get? ct = some co) (hcd : co.data = .seq its n) (hcode : (its.map reRawOf).map (·.toNat) = code) (hx : x.length ≤ 100000) (ap : ∀ q ∈ nw, q.1 ≠ D)
    (hlam : LamOk prog w (A.under (.builtin "re.Pattern.sub.loop" ⟨[], []⟩)) h₀ L m nw f p x tx)
    (total : List Str) (hw : (total.map (·.length)).sum + total.length ≤ 1048576) (hR : ∀ s' t', Bare o s' → Fr h₀ L s'.heap m → News h₀ L s'.heap nw → R (.ok (.ret (.str (Txt.join "" total) t'))) s') :
    ∀ (fuel done : Nat) (must : Bool) (k : Int) (vs : List Value) (xs rest : List Str) (s : Shared), subGo code x fuel done must = some rest → StrsAre vs xs → vs.length + 2 * fuel ≤ 4000 → xs ++ rest = total →
      Bare o s → Fr h₀ L s.heap m → News h₀ L s.heap ((D, listOf vs.toArray vs.length) :: nw) →
      codeAny (model prog w) A (.builtin "re.Pattern.sub.loop" ⟨[.ref p, .str x tx, .ref f, rawInt (1 : Nat), rawInt (0 : Nat), rawInt k, rawInt done, rawInt done, .bool must, .ref D, .bool false], []⟩) R s := by
  intro fuel
  induction fuel with
  | zero => intro done must k vs xs rest s h; cases h
  | succ fuel ih =>
    intro done must k vs xs rest s h hS hb ht hB F N
    refine codeAny_builtin entry_subloop ?_
    unfold Builtin.«re.Pattern.sub.loop»
    show wpAny _ _ (reWholeTarget (.ref p) (.str x tx) >>= _) _ _ s
    refine wpAny_bind (target_K (F.keep _ _ F₀) hpd hct hwant (F.keep _ _ C₀) hcd ?_)
    rw [hcode, hgr]
    dsimp only
    rw [if_neg (by decide)]
    have e0 : (((0 : Nat) : Int) != 0 && decide (k ≥ ((0 : Nat) : Int))) = false := rfl
    rw [e0, if_neg (by decide)]
    have hdn : ((done : Nat) : Int).toNat = done := Int.toNat_natCast done
    rw [hdn]
    unfold reNextFound
    unfold subGo at h
    cases hr : runM (Sre.forSearch code x.cps 1 done x.cps.size must) with
    | none => rw [hr] at h; cases h
    | some r =>
      rw [hr] at h
      refine wpAny_bind (wp_run hr ?_)
      have hlim : ∀ b e, (⟨x.cps.extract b e⟩ : Str).length ≤ sizeLine := fun b e => by
        rw [sizeLine_eq]
        have : (x.cps.extract b e).size ≤ x.cps.size := by simp; lia
        exact Nat.le_trans this (Nat.le_trans hx (by lia))
      cases r with
      | none =>
        dsimp only
        have fin : ∀ (s : Shared) (vs' : List Value) (xs' : List Str), Bare o s → Fr h₀ L s.heap m → News h₀ L s.heap ((D, listOf vs'.toArray vs'.length) :: nw) → StrsAre vs' xs' → xs' = total → wpAny (model prog w) (A.under (.builtin "re.Pattern.sub.loop" ⟨[], []⟩)) (do
            let joiner ← reSlice x.cps 0 0 0
            let __do_lift ← seqItems? (Value.ref D)
            if (__do_lift.getD #[]).isEmpty = true then do
                let text ← pure joiner
                ret text
              else do
                let text ← call (Value.builtin (if (0 == 0) = true then "str.join" else "bytes.join")) [joiner, Value.ref D]
                ret text) (fun fin s' =>
      match fin with
      | Fin.done f => R (Except.ok f) s'
      | Fin.again c' => c'.quiet = true ∧ codeAny (model prog w) A c' R s') (fun e s' => R (Except.error e) s') s := fun s vs' xs' hB F N hS ht => by
          subst ht
          have hsl : reSlice x.cps 0 0 0 = mkStr ⟨x.cps.extract 0 0⟩ := rfl
          rw [hsl]
          refine wpAny_bind (wpAny_mkStr ?_ (hlim 0 0))
          refine wpAny_bind (wpAny_seqItems (N _ (.head _)).1 rfl ?_)
          have e1 : (⟨x.cps.extract 0 0⟩ : Str) = "" := by simp; rfl
          have e2 : ((some vs'.toArray).getD #[]).isEmpty = vs'.isEmpty := by simp
          rw [e1, e2]
          cases vs' with
          | nil =>
            rw [List.isEmpty_nil, if_pos rfl]
            cases hS
            refine wpAny_bind (wpAny_pure (wpAny_pure ?_))
            exact hR _ _ hB F (newsT N)
          | cons v r =>
            rw [List.isEmpty_cons, if_neg Bool.false_ne_true]
            refine wpAny_bind ?_
            have e3 : (if ((0 : Nat) == 0) = true then "str.join" else "bytes.join") = "str.join" := rfl
            rw [e3]
            refine join_listW (items := (v :: r).toArray) (ys := xs') ⟨_, (N _ (.head _)).1, rfl, _, rfl⟩ (by simpa using hS) (by decide) hw fun t' k => ?_
            exact wpAny_pure (hR _ _ hB F (newsT N))
        simp only [Option.some.injEq] at h
        subst h
        simp only [Bool.false_eq_true, if_false]
        exact piece_K hB F N ap hS (by lia) (hlim _ _) fun s' vs' B' F' N' hS' _ => fin s' vs' _ B' F' N' hS' ht
      | some M =>
        dsimp only at h ⊢
        cases hsp : spanM M with
        | none => rw [hsp] at h; cases h
        | some be =>
          obtain ⟨b, e⟩ := be
          rw [hsp] at h
          dsimp only at h
          cases hg : subGo code x fuel M.handed (M.handed == M.start) with
          | none => rw [hg] at h; cases h
          | some rest' =>
            rw [hg] at h
            simp only [Option.map_some, Option.some.injEq] at h
            subst h
            refine piece_K hB F N ap hS (by lia) (hlim _ _) fun s' vs' B' F' N' hS' hl' => ?_
            rw [if_neg (by decide)]
            refine wpAny_bind (newMatch_K F' N' hsp fun h₁ a tp F₁ N₁ => ?_)
            rw [if_pos (by decide)]
            refine wpAny_bind (wpAny_holding (wpAny_mono (hlam _ _ _ _ _ _ _ _ _ _ F₁ N₁ (fun q hq => .tail _ (.tail _ (.tail _ hq))) (.head _) (.tail _ (.head _))) (fun v s₂ h₂ => ?_) fun _ _ e => e))
            refine Classical.byContradiction fun hng9 => ?_
            obtain ⟨u, h₃, tk, rfl, rfl, F₃, N₃⟩ := h₂
            refine hng9 ?_
            clear hng9
            have ne : (Value.str ⟨#[92] ++ x.cps.extract b e⟩ u != Value.none) = true := rfl
            rw [if_pos ne]
            refine wpAny_bind (push_K F₃ (newsT (newsT N₃)) ap (by simp; lia) fun h₄ F₄ N₄ => ?_)
            refine wpAny_pure ⟨plainId_quiet plain_subloop _, ?_⟩
            have hk1 : k + 1 = ((k + 1 : Int)) := rfl
            refine ih M.handed (M.handed == M.start) (k + 1) (vs' ++ [.str _ u]) (xs ++ (if done < M.start then [⟨x.cps.extract done M.start⟩] else []) ++ [⟨#[92] ++ x.cps.extract b e⟩]) rest' _ hg (strs_snoc hS') (by simp; lia) ?_ B' F₄ ?_
            · have e9 : xs ++ (if done < M.start then [(⟨x.cps.extract done M.start⟩ : Str)] else []) ++ [⟨#[92] ++ x.cps.extract b e⟩] ++ rest' = xs ++ ((if done < M.start then [(⟨x.cps.extract done M.start⟩ : Str)] else []) ++ ⟨#[92] ++ x.cps.extract b e⟩ :: rest') := by simp
              rw [e9]; exact ht
            · simpa using N₄
theorem sub_K {o : OsState} {code : Array Nat} {f p ct : Addr} {po co fo : Obj} {fs its : Array Value} {n : Nat} {x : Str} {tx : Tok} {rest : List Str} {Q : Value → Shared → Prop}
    (F : Fr h₀ L s.heap m) (N : News h₀ L s.heap nw)
    (F₀ : h₀.get? p = some po) (hpc : po.cls = .type "re.Pattern") (hpd : po.data = .fields fs) (hct : fs.getD 5 .none = .ref ct) (hwant : reRawNat (fs.getD 6 .none) = 0) (hgr : reRawNat (fs.getD 2 .none) = 1)
    (C₀ : h₀.get? ct = some co) (hcd : co.data = .seq its n) (hcode : (its.map reRawOf).map (·.toNat) = code) (hx : x.length ≤ 100000)
    (hf : s.heap.get? f = some fo) (hfc : fo.cls = .type "function")
    (hlam : LamOk prog w (A.under (.builtin "re.Pattern.sub.loop" ⟨[], []⟩)) h₀ L m nw f p x tx)
    (hs : subGo code x 1000 0 false = some rest) (hw : (rest.map (·.length)).sum + rest.length ≤ 1048576)
    (h : ∀ s' t', Bare o s' → Fr h₀ L s'.heap m → News h₀ L s'.heap nw → Q (.str (Txt.join "" rest) t') s')
    (hB : Bare o s := by first | assumption | exact And.right (by assumption)) :
    wpAny (model prog w) A (call (.builtin "re.Pattern.sub") [.ref p, .ref f, .str x tx]) Q E s := by
  have hT : s.TypeIs (.ref p) "re.Pattern" := ⟨_, F.keep _ _ F₀, hpc⟩
  have hTf : s.TypeIs (.ref f) "function" := ⟨_, hf, hfc⟩
  refine wpAny_call (codeAny_call_builtin slot_sub.plain entry_sub (slot_sub.check _ _ _ _ _ _ _ _ hT (args_sub _ _ _) ?_))
  unfold Builtin.«re.Pattern.sub» reSubstitute
  repeat wp_step
  have fcall : typeLookup (.type "function") "__call__" = pure (some (.builtin "function.__call__")) := by rw [typeLookup_type, builtinLookup_eq_fast]; kernel_rfl
  have fby : isSubtype (.type "str") (.type "bytearray") = pure false := by rw [isSubtype_type]; kernel_rfl
  refine wpAny_of_eq fcall ?_
  (try dsimp only [Option.isSome_some])
  rw [if_pos rfl]
  refine wpAny_bind (wpAny_pure ?_)
  rw [if_pos rfl]
  refine wpAny_bind (wpAny_pure ?_)
  refine wpAny_bind (wpAny_holding (target_K (F.keep _ _ F₀) hpd hct hwant (F.keep _ _ C₀) hcd ?_))
  dsimp only
  rw [if_pos (show ((1 : Int) == 1) = true from rfl)]
  unfold reNotHeld
  refine wpAny_bind (wpAny_bind (wpAny_isInstance (typeIs_str _ _ _) fby ?_))
  rw [if_neg Bool.false_ne_true]
  refine wpAny_pure ?_
  refine wpAny_bind (m := newList []) (wpAny_newObj_type ?_)
  refine wpAny_pure ⟨plainId_quiet plain_subloop _, ?_⟩
  exact subloop_K F₀ hpd hct hwant hgr C₀ hcd hcode hx (fun q hq => Nat.ne_of_lt (Heap.lt_size (N q hq).1)) hlam rest hw (fun s' t' B' F' N' => h s' t' B' F' N') 1000 0 false 0 [] [] rest _ hs .nil (by decide) rfl hB (F.push _) (N.push F _)
end
end

section
open PySem PySem.W PyProof.Rows PySem.Calls PySem.Builtin PySem.Builtin.Str
/-- a state to meet at: the ledger, the locals that are said, the rest free or as before -/
noncomputable def MeetL {σ : Type} (h₀ : Heap) (L : Addr) (Led : σ → List (Addr × Obj)) (ps : σ → List (Str × Value)) (stored : List Str) (m₀ : Str → Option Value) (P : σ → Prop) (s₂ : Shared) : Prop :=
  ∃ (c : σ) (m' : Str → Option Value) (nw : List (Addr × Obj)), Fr h₀ L s₂.heap m' ∧ News h₀ L s₂.heap nw ∧ (∀ p ∈ Led c, p ∈ nw) ∧ (∀ p ∈ ps c, m' p.1 = some p.2) ∧ (∀ z, (∀ p ∈ ps c, z ≠ p.1) → stored.contains z = false → m' z = m₀ z) ∧ P c
/-- the same, the generators bare -/
noncomputable def MeetAt {σ : Type} (o : OsState) (h₀ : Heap) (L : Addr) (Led : σ → List (Addr × Obj)) (ps : σ → List (Str × Value)) (stored : List Str) (m₀ : Str → Option Value) (P : σ → Prop) (s₂ : Shared) : Prop := Bare o s₂ ∧ MeetL h₀ L Led ps stored m₀ P s₂
theorem meet {σ : Type} {o : OsState} {h₀ : Heap} {L : Addr} {Led : σ → List (Addr × Obj)} {ps : σ → List (Str × Value)} {stored : List Str} {m₀ m' : Str → Option Value} {P : σ → Prop} {s₂ : Shared} {nw : List (Addr × Obj)} (c : σ) (F : Fr h₀ L s₂.heap m') (N : News h₀ L s₂.heap nw)
    (hn : ∀ p ∈ Led c, p ∈ nw) (hk : ∀ p ∈ ps c, m' p.1 = some p.2) (hr : ∀ z, (∀ p ∈ ps c, z ≠ p.1) → stored.contains z = false → m' z = m₀ z) (hp : P c) (hB : Bare o s₂ := by first | assumption | exact And.right (by assumption)) : MeetAt o h₀ L Led ps stored m₀ P s₂ := ⟨hB, c, m', nw, F, N, hn, hk, hr, hp⟩
noncomputable def WhlG {σ : Type} (o : OsState) (h₀ : Heap) (L : Addr) (Led : σ → List (Addr × Obj)) (ps : σ → List (Str × Value)) (stored : List Str) (m₀ : Str → Option Value) (P : σ → Prop) (μ : σ → Nat) (Q : Flow → Shared → Prop) (k : Nat) (f : Flow) (s₂ : Shared) : Prop :=
  match f with
  | .ret v => Q (.ret v) s₂
  | .brk => Q .next s₂
  | _ => MeetAt o h₀ L Led ps stored m₀ (fun c => P c ∧ μ c < k) s₂
section
variable {prog : Program} {w : World} {A : Around} {E : Value → Shared → Prop} {Q : Flow → Shared → Prop} {s : Shared} {env : Env} {h₀ : Heap} {L : Addr} {o : OsState}
theorem meet_use {σ : Type} {Led : σ → List (Addr × Obj)} {ps : σ → List (Str × Value)} {stored : List Str} {m₀ : Str → Option Value} {P : σ → Prop} {s₂ : Shared} (h : MeetL h₀ L Led ps stored m₀ P s₂) :
    ∃ (c : σ) (u : Str → Option Value), P c ∧ Fr h₀ L s₂.heap (kstB (fun z => if stored.contains z then u z else m₀ z) (ps c)) ∧ News h₀ L s₂.heap (Led c) := by
  refine Classical.byContradiction fun hng9 => ?_
  obtain ⟨c, m', nw, F, N, hn, hk, hr, hp⟩ := h
  refine hng9 ?_
  clear hng9
  exact ⟨c, m', hp, ksw_fr hk hr F, fun p hq => N p (hn p hq)⟩
theorem gen_pos {α : Type} {M : Model} {A : Around} {t : Sem α} {Q : α → Shared → Prop} {E : Value → Shared → Prop} {h : Heap} {g : Array GenState} {d : Drawn} {n : Nat} {o : OsState} (h0 : 0 < n)
    (hq : ∀ tk, 0 < tk → wpAny M A t Q E ⟨h, g, d, tk, o⟩) : wpAny M A t Q E ⟨h, g, d, n, o⟩ := hq n h0
theorem has_pos {α : Type} {M : Model} {A : Around} {t : Sem α} {Q : α → Shared → Prop} {E : Value → Shared → Prop} {h : Heap} {g : Array GenState} {d : Drawn} {n : Nat} {o : OsState} (_ : 0 < n) (hq : wpAny M A t Q E ⟨h, g, d, n, o⟩) : wpAny M A t Q E ⟨h, g, d, n, o⟩ := hq
/-- both ways of a statement meet -/
theorem cut_at {σ : Type} {t : Sem Flow} {m₀ : Str → Option Value} (_F : Fr h₀ L s.heap m₀) (Led : σ → List (Addr × Obj)) (ps : σ → List (Str × Value)) (stored : List Str) (P : σ → Prop)
    (h1 : ∀ R : Flow → Shared → Prop, (∀ s', MeetAt o h₀ L Led ps stored m₀ P s' → R .next s') → wpAny (model prog w) A t R E s)
    (h2 : ∀ (c : σ) (u : Str → Option Value) (s' : Shared), s.toks ≤ s'.toks ∧ Bare o s' → P c → Fr h₀ L s'.heap (kstB (fun z => if stored.contains z then u z else m₀ z) (ps c)) → News h₀ L s'.heap (Led c) → Q .next s')
    (_hB : Bare o s := by first | assumption | exact And.right (by assumption)) :
    wpAny (model prog w) A t Q E s :=
  wpAny_with_toks (Nat.le_refl _) (wpAny_mono (h1 (fun f s' => f = .next ∧ MeetAt o h₀ L Led ps stored m₀ P s') fun _ h => ⟨rfl, h⟩) (fun f s' h htk => by
    refine Classical.byContradiction fun hng9 => ?_
    obtain ⟨rfl, hb, hm⟩ := h
    refine hng9 ?_
    clear hng9
    refine Classical.byContradiction fun hng9 => ?_
    obtain ⟨c, u, hp, F, N⟩ := meet_use hm
    refine hng9 ?_
    clear hng9
    exact h2 c u s' ⟨htk, hb⟩ hp F N) fun _ _ e _ => e)
theorem whileG {σ : Type} {test : Expr} {body : List Stmt} {pos : Pos} {m₀ : Str → Option Value} (Led : σ → List (Addr × Obj)) (ps : σ → List (Str × Value)) (stored : List Str) (P : σ → Prop) (μ : σ → Nat) (c₀ : σ)
    (F : Fr h₀ L s.heap m₀) (N : News h₀ L s.heap (Led c₀)) (hk : ∀ p ∈ ps c₀, m₀ p.1 = some p.2) (hp : P c₀)
    (turn : ∀ (c : σ) (u : Str → Option Value) (s' : Shared), s.toks ≤ s'.toks ∧ Bare o s' → P c → Fr h₀ L s'.heap (kstB (fun z => if stored.contains z then u z else m₀ z) (ps c)) → News h₀ L s'.heap (Led c) →
      ∀ R : Flow → Shared → Prop, (∀ f s₂, WhlG o h₀ L Led ps stored m₀ P μ Q (μ c) f s₂ → R f s₂) →
      wpAny (model prog w) A (isTrue test env (eval test env)) (fun b s₂ =>
        if b = true then wpAny (model prog w) A (execs body env) R E s₂ else Q .next s₂) E s')
    (hB : Bare o s := by first | assumption | exact And.right (by assumption))
    (hE : PassesOwn (model prog w) A env E := by passes_own) :
    wpAny (model prog w) A (exec (.While test body [] pos) env) Q E s := by
  refine wpAny_While (codeAny_whileLoop (fun n s' => s.toks ≤ s'.toks ∧ MeetAt o h₀ L Led ps stored m₀ (fun c => P c ∧ μ c = n) s') ?_ (μ c₀) ⟨Nat.le_refl _, hB, c₀, m₀, _, F, N, fun _ h => h, hk, fun _ _ _ => rfl, hp, rfl⟩)
  intro n s' hm
  refine Classical.byContradiction fun hng9 => ?_
  obtain ⟨ht, hb, hm⟩ := hm
  refine hng9 ?_
  clear hng9
  refine Classical.byContradiction fun hng9 => ?_
  obtain ⟨c, u, ⟨hp', rfl⟩, F', N'⟩ := meet_use hm
  refine hng9 ?_
  clear hng9
  refine wpAny_with_toks ht (wpAny_mono (turn c u s' ⟨ht, hb⟩ hp' F' N' _ fun _ _ h => h) (fun b s₂ h₂ ht₂ => ?_) fun e s₂ h _ => hE e s₂ h)
  cases b with
  | false =>
    simp only [Bool.false_eq_true, if_false] at h₂ ⊢
    exact wpAny_execs_nil h₂
  | true =>
    simp only [if_true] at h₂ ⊢
    refine wpAny_with_toks ht₂ (wpAny_mono h₂ (fun f s₃ h₃ ht₃ => ?_) fun e s₂ h _ => hE e s₂ h)
    cases f with
    | ret v => exact h₃
    | brk => exact h₃
    | next =>
      refine Classical.byContradiction fun hng9 => ?_
      obtain ⟨hb', c', m', nw, F, N, hn, hk, hr, hp, hlt⟩ := h₃
      refine hng9 ?_
      clear hng9
      exact ⟨μ c', hlt, ht₃, hb', c', m', nw, F, N, hn, hk, hr, hp, rfl⟩
    | cont =>
      refine Classical.byContradiction fun hng9 => ?_
      obtain ⟨hb', c', m', nw, F, N, hn, hk, hr, hp, hlt⟩ := h₃
      refine hng9 ?_
      clear hng9
      exact ⟨μ c', hlt, ht₃, hb', c', m', nw, F, N, hn, hk, hr, hp, rfl⟩
end

/-- as Does, but the generators' store may have grown -/
noncomputable def DoesG (prog : Program) (w : World) (K : Frag) (p : Program) (loose : List Str) (mean : ExcName → Option Value) (mg mb : Str → Option Value) (f : Addr) (dep : Nat)
    (news : List (Addr × Obj)) (vs : List Value) (Ro : List (Addr × Obj) → Value → Prop) : Prop :=
  ∀ (dp un : Nat) (gd : Option (List Code)) (cn : Str) (cs : Scope) (a : Addr) (ccd : Value) (cl : List (Str × Addr)) (outer : List Env) (A₀ : Around) (base h₀ : Heap) (L : Addr) (m : Str → Option Value) (s : Shared) (o : OsState) (Q E : Value → Shared → Prop),
    Below A₀ base outer h₀ → Fr h₀ L s.heap m → K.In h₀ → News h₀ L s.heap news → Top p loose mean mg mb h₀ → cs.kind = .function → dp + dep < recursionLimit → un + 8 * dep < cLine → Bare o s →
    (∀ (news' : List (Addr × Obj)) (r : Value) (s' : Shared), Ro news' r → Bare o s' → Fr h₀ L s'.heap m → News h₀ L s'.heap news' → Q r s') →
      wpAny (model prog w) (ktrTop dp un gd cn cs L a ccd cl outer) (call (.ref f) vs) Q E s
section
variable {prog : Program} {w : World} {K : Frag} {p : Program} {loose : List Str} {mean : ExcName → Option Value} {mg mb : Str → Option Value} {f : Addr} {dep : Nat} {news : List (Addr × Obj)} {vs : List Value} {Ro : List (Addr × Obj) → Value → Prop}
theorem DoesG.use {o : OsState} {dp un : Nat} {gd : Option (List Code)} {cn : Str} {cs : Scope} {a : Addr} {ccd : Value} {cl : List (Str × Addr)} {outer : List Env} {A₀ : Around} {base h₀ : Heap} {L : Addr} {m : Str → Option Value} {s : Shared} {Q E : Value → Shared → Prop}
    (B : Below A₀ base outer h₀) (F : Fr h₀ L s.heap m) (X : K.In h₀) (N : News h₀ L s.heap news) (T : Top p loose mean mg mb h₀) (hk : cs.kind = .function) (hd : dp + dep < recursionLimit) (hu : un + 8 * dep < cLine)
    (D : DoesG prog w K p loose mean mg mb f dep news vs Ro)
    (h : ∀ (news' : List (Addr × Obj)) (r : Value) (s' : Shared), Ro news' r → Bare o s' → Fr h₀ L s'.heap m → News h₀ L s'.heap news' → Q r s')
    (hB : Bare o s := by first | assumption | exact And.right (by assumption)) :
    wpAny (model prog w) (ktrTop dp un gd cn cs L a ccd cl outer) (call (.ref f) vs) Q E s := D dp un gd cn cs a ccd cl outer A₀ base h₀ L m s o Q E B F X N T hk hd hu hB h
end
/-- the code table: whole triples; the lambda's code, if made, is on the ledger -/
structure TabOk (posL : Pos) (qual : Str) (led : List (Addr × Obj)) (ps : Array Value) : Prop where
  tri : TriplesOk ps.toList
  lam : codeAmong posL ps.toList = none ∨ ∃ c' oc vs t, codeAmong posL ps.toList = some (.ref c') ∧ (c', oc) ∈ led ∧ oc.data = .fields vs ∧ vs[1]? = some (.str qual t)
end

section
open PySem PySem.W PyProof.Rows PySem.Calls
section
variable {prog : Program} {w : World} {A : Around} {E : Value → Shared → Prop} {s : Shared}
theorem getItem_miss {d : Addr} {k : Int} {t : Tok} {f : Int → Option Value} {Q : Value → Shared → Prop} (hm : s.heap.MapOf (intKind prog w) d f) (hd : (d == sysModules) = false) (hh : A.handled = none) (hf : f k = none)
    (h : ∀ h' e, Heap.NewExc s.heap h' e "KeyError" → E (.ref e) { s with heap := h', toks := s.toks + 1 }) : wpAny (model prog w) A (getItem (.ref d) (.int k t)) Q E s := by
  unfold getItem
  try with_reducible refine wpAny_holding ?_
  refine wpAny_bind (wpAny_sequenceKey hm.typeIs (by decide) ?_)
  refine wpAny_bind (wpAny_callSpecial?_slot (name := Str.ofString "__getitem__") hm.typeIs slot_dict_getitem ?_)
  exact call_meetsIn slot_dict_getitem hm.typeIs entry_dict_getitem (args_dict_getitem _ _) (meets_dict_getitem_missing (intKind prog w) d (intKind_is prog w k t) hd) ⟨hh, f, hm, hf, h⟩
end
end

section
open PySem PySem.W PyProof.Rows PySem.Calls PySem.Builtin
theorem sub_key_lookup : isSubtype (.type "KeyError") (.type "LookupError") = pure true := by rw [isSubtype_type]; kernel_rfl
section
variable {prog : Program} {w : World} {A : Around} {E : Value → Shared → Prop} {s : Shared} {d : Addr} {c : Nat} {f : Int → Option Value}
theorem lookup_hit {y : Str} {u : Tok} {Q : Str.Mapped → Shared → Prop} (hm : s.heap.MapOf (intKind prog w) d f) (hf : f (c : Int) = some (.str y u)) (h : ∀ tk, Q (.text y) { s with toks := tk }) :
    wpAny (model prog w) A (Str.tableLookup (.ref d) c) Q E s := by
  unfold Str.tableLookup
  refine wpAny_bind (wpAny_attempt (wpAny_bind (wpAny_mkInt (wpAny_getItem_of (intKind_is prog w c _) hm hf ?_))))
  obtain ⟨hh, g, dd, t, os⟩ := s
  repeat (any_goals (first | assumption | exact h _ | wp_step))
theorem lookup_miss {Q : Str.Mapped → Shared → Prop} (hm : s.heap.MapOf (intKind prog w) d f) (hd : (d == sysModules) = false) (hh : A.handled = none) (hf : f (c : Int) = none)
    (h : ∀ h' tk, (∀ b o, s.heap.get? b = some o → h'.get? b = some o) → Q .keep { s with heap := h', toks := tk }) :
    wpAny (model prog w) A (Str.tableLookup (.ref d) c) Q E s := by
  unfold Str.tableLookup
  refine wpAny_bind (wpAny_attempt (wpAny_bind (wpAny_mkInt (getItem_miss hm hd hh hf fun h' e hx => ?_))))
  obtain ⟨ob, t, ho, hc, hdd⟩ := hx.there
  have hT : ({ s with heap := h', toks := s.toks + 1 + 1 } : Shared).TypeIs (.ref e) "KeyError" := ⟨ob, ho, hc⟩
  have f1 := sub_key_lookup
  obtain ⟨hh, g, dd, t, os⟩ := s
  repeat (any_goals (first | assumption | exact h _ _ hx.keeps | wp_step))
theorem cps_lt (hc : c < 128) : (#[c].all (· < 128)) = true := by simp [hc]
theorem len_one (c : Nat) : ((⟨#[c]⟩ : PySem.Str).length == 0) = false := rfl
theorem translate_hit {t u : Tok} {Q : Value → Shared → Prop} (hm : s.heap.MapOf (intKind prog w) d f) (hf : f (c : Int) = some (.str ⟨#[92, c]⟩ u)) (hc : c < 128)
    (h : ∀ t' tk, Q (.str ⟨#[92, c]⟩ t') { s with toks := tk }) : wpAny (model prog w) A (call (.builtin "str.translate") [.str ⟨#[c]⟩ t, .ref d]) Q E s := by
  refine call_meetsIn (S := fun A R s => s.heap.MapOf (intKind prog w) d f ∧ ∀ t' tk, R (.ok (.ret (.str ⟨#[92, c]⟩ t'))) { s with toks := tk }) PySem.F.slot_str_translate rfl PySem.F.entry_str_translate (PySem.F.args_str_translate_2 _ _) ?_ ⟨hm, h⟩
  refine .of_wp fun A R s x => ?_
  obtain ⟨hm, h⟩ := x
  unfold Builtin.«str.translate»
  have f1 := cps_lt hc
  have f2 := len_one c
  obtain ⟨hh, g, dd, tk, os⟩ := s
  clear hc
  repeat (first | ((with_reducible show wpAny _ _ (ite _ _ _) _ _ _); refine wpAny_ite_true (decide_eq_true f1) ?_) | ((with_reducible show wpAny _ _ (Str.tableLookup _ _) _ _ _); refine lookup_hit hm hf ?_; intro tk'; (try dsimp only)) | wp_step)
  exact ⟨_, rfl, h _ _⟩
theorem translate_miss {t : Tok} {Q : Value → Shared → Prop} (hm : s.heap.MapOf (intKind prog w) d f) (hd : (d == sysModules) = false) (hh : A.handled = none) (hf : f (c : Int) = none) (hc : c < 128)
    (h : ∀ h' t' tk, (∀ b o, s.heap.get? b = some o → h'.get? b = some o) → Q (.str ⟨#[c]⟩ t') { s with heap := h', toks := tk }) : wpAny (model prog w) A (call (.builtin "str.translate") [.str ⟨#[c]⟩ t, .ref d]) Q E s := by
  refine call_meetsIn (S := fun A R s => A.handled = none ∧ s.heap.MapOf (intKind prog w) d f ∧ ∀ h' t' tk, (∀ b o, s.heap.get? b = some o → h'.get? b = some o) → R (.ok (.ret (.str ⟨#[c]⟩ t'))) { s with heap := h', toks := tk }) PySem.F.slot_str_translate rfl PySem.F.entry_str_translate (PySem.F.args_str_translate_2 _ _) ?_ ⟨hh, hm, h⟩
  refine .of_wp fun A R s x => ?_
  obtain ⟨hh, hm, h⟩ := x
  unfold Builtin.«str.translate»
  have f1 := cps_lt hc
  obtain ⟨hp, g, dd, tk, os⟩ := s
  clear hc
  repeat (first | ((with_reducible show wpAny _ _ (ite _ _ _) _ _ _); refine wpAny_ite_true (decide_eq_true f1) ?_) | ((with_reducible show wpAny _ _ (Str.tableLookup _ _) _ _ _); refine lookup_miss hm hd hh hf ?_; intro h' tk' hk'; (try dsimp only)) | wp_step)
  exact ⟨_, rfl, h _ _ _ hk'⟩
end
end

section
open PySem PySem.W PyProof.Rows PySem.Calls
theorem mapI_K {prog : Program} {w : World} {K : Frag} {h : Heap} {a : Addr} {es : Array DictEntry} {n : Nat} (X : K.In h) (hl : K.lookup a = some ⟨.type "dict", none, .dict es n, #[]⟩) (hk : (es.all fun e => match e.key with | .int k _ => e.hash == hashInt k | _ => false) = true) :
    h.MapOf (intKind prog w) a (fun k => findBy Value.isInt es k) := by
  refine ⟨_, es, n, X _ _ hl, ⟨rfl, rfl, rfl⟩, rfl, fun e he => ?_, fun _ => rfl⟩
  have q := (Array.all_eq_true_iff_forall_mem.mp hk) e he
  split at q
  · rename_i k t hq
    exact ⟨k, by rw [hq]; exact intKind_is prog w k t, beq_iff_eq.mp q⟩
  · cases q
noncomputable def specials : List Nat := [40, 41, 91, 93, 123, 125, 63, 42, 43, 45, 124, 94, 36, 92, 46, 38, 126, 35, 32, 9, 10, 13, 11, 12]
noncomputable def escS (c : Nat) : Str := if specials.contains c = true then ⟨#[92, c]⟩ else ⟨#[c]⟩
noncomputable def escOk (es : Array DictEntry) : Bool := (List.range 128).all fun (c : Nat) => match findBy Value.isInt es (c : Int) with
  | some (.str y _) => y == ⟨#[92, c]⟩ && specials.contains c
  | some _ => false
  | none => !specials.contains c
theorem escOk_hit {es : Array DictEntry} (h : escOk es = true) {c : Nat} (hc : c < 128) (hs : specials.contains c = true) : ∃ u, findBy Value.isInt es (c : Int) = some (.str ⟨#[92, c]⟩ u) := by
  have := List.all_eq_true.mp h c (List.mem_range.mpr hc)
  split at this
  · rename_i y u e
    exact ⟨u, by rw [e, beq_iff_eq.mp (Bool.and_eq_true_iff.mp this).1]⟩
  · cases this
  · rw [hs] at this; cases this
theorem escOk_miss {es : Array DictEntry} (h : escOk es = true) {c : Nat} (hc : c < 128) (hs : specials.contains c = false) : findBy Value.isInt es (c : Int) = none := by
  have := List.all_eq_true.mp h c (List.mem_range.mpr hc)
  split at this
  · rw [hs] at this; simp at this
  · cases this
  · assumption
section
variable {prog : Program} {w : World} {A : Around} {E : Value → Shared → Prop} {s : Shared} {K : Frag} {h₀ : Heap} {L a : Addr} {m : Str → Option Value} {nw : List (Addr × Obj)}
theorem translate_K {es : Array DictEntry} {n : Nat} {c : Nat} {t : Tok} {Q : Value → Shared → Prop} (F : Fr h₀ L s.heap m) (X : K.In h₀) (N : News h₀ L s.heap nw) (hh : A.handled = none) (hl : K.lookup a = some ⟨.type "dict", none, .dict es n, #[]⟩)
    (hk : (es.all fun e => match e.key with | .int k _ => e.hash == hashInt k | _ => false) = true) (ho : escOk es = true) (ha : (a == sysModules) = false) (hc : c < 128)
    (h : ∀ h' t' tk, Fr h₀ L h' m → News h₀ L h' nw → Q (.str (escS c) t') { s with heap := h', toks := tk }) : wpAny (model prog w) A (call (.builtin "str.translate") [.str ⟨#[c]⟩ t, .ref a]) Q E s := by
  have hm : s.heap.MapOf (intKind prog w) a (fun k => findBy Value.isInt es k) := mapI_K (X.keeps F.keep) hl hk
  cases hs : specials.contains c with
  | true =>
    obtain ⟨u, hu⟩ := escOk_hit ho hc hs
    have e : escS c = ⟨#[92, c]⟩ := by unfold escS; rw [if_pos hs]
    exact translate_hit hm hu hc fun t' tk => by rw [← e]; exact h s.heap t' tk F N
  | false =>
    have e : escS c = ⟨#[c]⟩ := by unfold escS; rw [hs]; rfl
    exact translate_miss hm ha hh (escOk_miss ho hc hs) hc fun h' t' tk hk' => by rw [← e]; exact h h' t' tk (F.keeps hk') (N.grown hk')
end
end

section
open PySem PySem.W PyProof.Rows PySem.Calls
inductive OutAre : List Value → List (Option Str) → Prop
  | nil : OutAre [] []
  | star {vs os} : OutAre vs os → OutAre (.none :: vs) (none :: os)
  | text {vs os} (y : Str) (t : Tok) : OutAre vs os → OutAre (.str y t :: vs) (some y :: os)
theorem OutAre.len : ∀ {vs os}, OutAre vs os → vs.length = os.length
  | _, _, .nil => rfl
  | _, _, .star h => congrArg (· + 1) h.len
  | _, _, .text _ _ h => congrArg (· + 1) h.len
theorem OutAre.snocS : ∀ {vs os}, OutAre vs os → OutAre (vs ++ [.none]) (os ++ [none])
  | _, _, .nil => .star .nil
  | _, _, .star h => .star h.snocS
  | _, _, .text y t h => .text y t h.snocS
theorem OutAre.snocT {z : Str} {k : Tok} : ∀ {vs os}, OutAre vs os → OutAre (vs ++ [.str z k]) (os ++ [some z])
  | _, _, .nil => .text z k .nil
  | _, _, .star h => .star h.snocT
  | _, _, .text y t h => .text y t h.snocT
noncomputable def itm (x : Str) (i : Nat) : Str := Txt.item x (i : Int)
noncomputable def isAt (x : Str) (i : Nat) (s : String) : Bool := itm x i == Str.ofString s
/-- the closing bracket, or the end -/
noncomputable def jScan (x : Str) : Nat → Nat → Nat
  | 0, j => j
  | f + 1, j => if j < x.length && !isAt x j "]" then jScan x f (j + 1) else j
noncomputable def jB (x : Str) (i : Nat) : Nat := if i < x.length && isAt x i "!" then i + 1 else i
noncomputable def jC (x : Str) (j : Nat) : Nat := if j < x.length && isAt x j "]" then j + 1 else j
noncomputable def jFrom (x : Str) (i : Nat) : Nat := jScan x (x.length - jC x (jB x i)) (jC x (jB x i))
noncomputable def chunkF (x : Str) (j : Nat) : Nat → Nat → Nat → List Str → Option (Nat × List Str)
  | 0, _, _, _ => none
  | f + 1, i, k, cs => match Builtin.Str.occurrences x (Str.ofString "-") k j 1 with
    | [] => some (i, cs)
    | k' :: _ => if i ≤ k' ∧ k' < j then chunkF x j f (k' + 1) (k' + 3) (cs ++ [Txt.slice x (some (i : Int)) (some (k' : Int))]) else none
noncomputable def subCode : Array Nat := #[14, 14, 4, 1, 1, 9, 0, 64, 0, 1342177280, 0, 0, 0, 0, 0, 17, 0, 13, 11, 9, 0, 64, 0, 1342177280, 0, 0, 0, 0, 0, 17, 1, 1]
noncomputable def repB (y : Str) : Str := Txt.replace y (Str.ofString "\\") (Str.ofString "\\\\")
noncomputable def rep2 (y : Str) : Str := Txt.replace (repB y) (Str.ofString "-") (Str.ofString "\\-")
/-- two neighbours that stand in falling order are made one -/
noncomputable def fallS (a b : Str) : Bool := decide ((Txt.item b 0).cps.toList < (Txt.item a (-1)).cps.toList)
noncomputable def mergeF : List Str → Option (List Str)
  | [] => none
  | [a] => some [a]
  | [a, b] => if a.length = 0 ∨ b.length = 0 then none else
      some (if fallS a b then [Txt.slice a none (some (-1)) ++ Txt.slice b (some 1) none] else [a, b])
  | [a, b, c] => if a.length = 0 ∨ b.length = 0 ∨ c.length = 0 ∨ fallS b c = false ∨ (Txt.slice b none (some (-1)) ++ Txt.slice c (some 1) none).length = 0 ∨ fallS a (Txt.slice b none (some (-1)) ++ Txt.slice c (some 1) none) = true then none else
      some [a, Txt.slice b none (some (-1)) ++ Txt.slice c (some 1) none]
  | _ => none
noncomputable def dashF (x : Str) (i j : Nat) : Option Str :=
  match chunkF x j x.length i (if isAt x i "!" then i + 2 else i + 1) [] with
  | none => none
  | some (i', cs) =>
    let c := Txt.slice x (some (i' : Int)) (some (j : Int))
    match (if c.length = 0 then (match cs with | [l] => some [l ++ Str.ofString "-"] | _ => none) else some (cs ++ [c])) with
    | none => none
    | some cs => match mergeF cs with
      | none => none
      | some cs => some (Txt.join (Str.ofString "-") (cs.map rep2))
noncomputable def endF (y : Str) : Str :=
  if y.length = 0 then Str.ofString "(?!)"
  else if y == Str.ofString "!" then Str.ofString "."
  else if Txt.item y 0 == Str.ofString "!" then Str.ofString "[" ++ (Str.ofString "^" ++ Txt.slice y (some 1) none) ++ Str.ofString "]"
  else if [Str.ofString "^", Str.ofString "["].any (fun x => x == Txt.item y 0) then Str.ofString "[" ++ (Str.ofString "\\" ++ y) ++ Str.ofString "]"
  else Str.ofString "[" ++ y ++ Str.ofString "]"
noncomputable def preF (x : Str) (i j : Nat) : Option Str :=
  if Txt.contains (Txt.slice x (some (i : Int)) (some (j : Int))) (Str.ofString "-") then dashF x i j
  else some (repB (Txt.slice x (some (i : Int)) (some (j : Int))))
noncomputable def subF (y : Str) : Option Str :=
  if y.length ≤ 1000 then (match subGo subCode y 1000 0 false with | none => none | some l => if (l.map (·.length)).sum + l.length ≤ 100000 then some (Txt.join (Str.ofString "") l) else none) else none
noncomputable def stuffF (x : Str) (i j : Nat) : Option Str := match preF x i j with
  | none => none
  | some y => (subF y).map endF
noncomputable def trF (x : Str) : Nat → Nat → List (Option Str) → Option (List (Option Str))
  | 0, _, _ => none
  | f + 1, i, out =>
    if i < x.length then
      if isAt x i "*" then trF x f (i + 1) (if out.getLast? = some none then out else out ++ [none])
      else if isAt x i "?" then trF x f (i + 1) (out ++ [some (Str.ofString "?")])
      else if isAt x i "[" then
        if jFrom x (i + 1) < x.length then (match stuffF x (i + 1) (jFrom x (i + 1)) with | none => none | some y => trF x f (jFrom x (i + 1) + 1) (out ++ [some y]))
        else trF x f (i + 1) (out ++ [some (Str.ofString "\\[")])
      else if (itm x i).cps.getD 0 0 < 128 then trF x f (i + 1) (out ++ [some (escS ((itm x i).cps.getD 0 0))]) else none
    else some out
end

section
open PySem PySem.W PyProof.Rows PySem.Calls
theorem mw_P1_0 : True := by
  k_with_none
  trivial
theorem mw_P1_1 : True := by
  (k_with "call builtin:issubclass" => (k_here; k_dflt (refine' isc_str ?k1 ?_; (case k1 => exact (News.get (by k_asm) (by k_mem))); k_whole)))
  (k_with "Mdrop" => first | assumption | (refine' cb_drop ?cbN ?cbS; (case cbN => assumption); (case cbS => kcj_all)))
  (k_with "Muse" => (
        (case k1 => first | k_asm | ktn_no "use: the frames below")
        (case k2 => first | k_asm | ktn_no "use: the frame")
        (case k3 => first | k_asm | ktn_no "use: the written part")
        (case k4 => first | k_asm | ktn_no "use: the ledger")
        (case k5 => first | k_asm | ktn_no "use: the top's facts")
        (case k6 => first | exact rfl | assumption | ktn_no "use: the caller is no def")
        (case k7 => first | ktr_room | ktn_no "use: the frames' room")
        (case k8 => first | ktr_units | ktn_no "use: the C units")))
  trivial
theorem fspath_does (w : World) (mean : ExcName → Option Value) (mg mb : Str → Option Value) (news : List (Addr × Obj)) (x : Str) (t : Tok) :
  Does PySem.Challenge.rw_rx0110_02.row.prog w (hd.heap_39 w.params) topProg (looseW hd.view_39 [Str.ofString "_twin_re_1", Str.ofString "_special_chars_map"] ++ (recsOf hd.view_39).map (fun x => x.name) ++ (litsOf hd.view_39).map (fun x => x.1) ++ (clssOf hd.view_39 (looseW hd.view_39 [Str.ofString "_twin_re_1", Str.ofString "_special_chars_map"])).map (fun x => x.name)) mean mg mb 135 1 news [Value.str x t] (fun n r => news = n ∧ r = .str x t) := by
  k_fill
  unfold Does
  intro dp un gd cn cs a ccd cl outer A₀ base h₀ L m s Q E B F X N T hk hd hu hret
  refine wpAny_call ?_
  (k_dflt cell_enter)
  k_steps
  all_goals exact hret _ _ _ _ ⟨rfl, rfl⟩ (by assumption) (by walk_at "Mdrop")
theorem get_sep_does (w : World) (mean : ExcName → Option Value) (mg mb : Str → Option Value) (news : List (Addr × Obj)) (x : Str) (t : Tok) :
  Does PySem.Challenge.rw_rx0110_02.row.prog w (hd.heap_39 w.params) topProg (looseW hd.view_39 [Str.ofString "_twin_re_1", Str.ofString "_special_chars_map"] ++ (recsOf hd.view_39).map (fun x => x.name) ++ (litsOf hd.view_39).map (fun x => x.1) ++ (clssOf hd.view_39 (looseW hd.view_39 [Str.ofString "_twin_re_1", Str.ofString "_special_chars_map"])).map (fun x => x.name)) mean mg mb 149 1 news [Value.str x t] (fun n r => news = n ∧ ∃ u, r = .str (Str.ofString "/") u) := by
  k_fill
  unfold Does
  intro dp un gd cn cs a ccd cl outer A₀ base h₀ L m s Q E B F X N T hk hd hu hret
  refine wpAny_call ?_
  (k_dflt cell_enter)
  k_steps
  all_goals exact hret _ _ _ _ ⟨rfl, _, rfl⟩ (by assumption) (by walk_at "Mdrop")
theorem mw_P1_2 : True := by
  (k_with "call ref" => (k_here; k_dflt (refine' Does.use ?k1 ?k2 ?k3 ?k4 ?k5 ?k6 ?k7 ?k8 (fspath_does _ _ _ _ _ _ _) ?_; walk_at "Muse"; k_whole); intro _ _ _ _ hR' _ _; obtain ⟨rfl, rfl⟩ := hR'; (try dsimp only); (try k_fold)))
  trivial
noncomputable def sroot (x : Str) : Str × Str :=
  if (Txt.slice x none (some 1) != Str.ofString "/") = true then (Str.ofString "", x)
  else if (Txt.slice x (some 1) (some 2) != Str.ofString "/") = true then (Str.ofString "/", Txt.slice x (some 1) none)
  else if (Txt.slice x (some 2) (some 3) == Str.ofString "/") = true then (Str.ofString "/", Txt.slice x (some 1) none)
  else (Txt.slice x none (some 2), Txt.slice x (some 2) none)
noncomputable def SrO (news : List (Addr × Obj)) (x : Str) (n : List (Addr × Obj)) (r : Value) : Prop :=
  ∃ (D : Addr) (t1 t2 t3 : Tok), r = .ref D ∧ n = (D, { cls := .type "tuple", data := .seq #[.str (Str.ofString "") t1, .str (sroot x).1 t2, .str (sroot x).2 t3] }) :: news ∧ AllLt D news
theorem sr_mk {news : List (Addr × Obj)} {x a b : Str} {D : Addr} {t1 t2 t3 : Tok} (e : sroot x = (a, b)) (l : ∀ p ∈ news, p.1 < D) :
    SrO news x ((D, { cls := .type "tuple", data := .seq #[.str (Str.ofString "") t1, .str a t2, .str b t3] }) :: news) (.ref D) := ⟨D, t1, t2, t3, rfl, by rw [e], allLt_of l⟩
theorem splitroot_does (w : World) (mean : ExcName → Option Value) (mg mb : Str → Option Value) (news : List (Addr × Obj)) (x : Str) (t : Tok) (hx : x.length ≤ 100000) :
  Does PySem.Challenge.rw_rx0110_02.row.prog w (hd.heap_39 w.params) topProg (looseW hd.view_39 [Str.ofString "_twin_re_1", Str.ofString "_special_chars_map"] ++ (recsOf hd.view_39).map (fun x => x.name) ++ (litsOf hd.view_39).map (fun x => x.1) ++ (clssOf hd.view_39 (looseW hd.view_39 [Str.ofString "_twin_re_1", Str.ofString "_special_chars_map"])).map (fun x => x.name)) mean mg mb 170 2 news [Value.str x t] (SrO news x) := by
  k_fill
  unfold Does
  intro dp un gd cn cs a ccd cl outer A₀ base h₀ L m s Q E B F X N T hk hd hu hret
  refine wpAny_call ?_
  (k_dflt cell_enter)
  k_steps
  all_goals (refine hret _ _ _ _ (sr_mk ?_ (by assumption)) (by assumption) (by assumption); clear hret; simp only [sroot, *, if_true, if_false, Bool.false_eq_true])
theorem mw_P1_3 : True := by
  (k_with "call ref" => (k_here; k_dflt (refine' Does.use ?k1 ?k2 ?k3 ?k4 ?k5 ?k6 ?k7 ?k8 (splitroot_does _ _ _ _ _ _ _ (by omega)) ?_; walk_at "Muse"; k_whole); intro _ _ _ _ hR' _ _; obtain ⟨_, _, _, _, rfl, rfl, _⟩ := hR'; (try dsimp only); (try k_fold)))
  trivial
end

section
open PySem PySem.W PyProof.Rows PySem.Calls
section
variable {prog : Program} {w : World} {A : Around} {E : Value → Shared → Prop} {s : Shared} {h₀ : Heap} {L D : Addr} {m : Str → Option Value} {nw nw' : List (Addr × Obj)} {vs ws : List Value} {v : Value} {n : Nat}
theorem tru_snoc {Q : Bool → Shared → Prop} (N : News h₀ L s.heap nw) (hm : (D, listOf (ws ++ [v]).toArray n) ∈ nw) (hb : ws.length ≤ 1000000)
    (h : Q true { s with toks := s.toks + 1 + 1 }) : wpAny (model prog w) A (truthy (.ref D)) Q E s :=
  wpAny_truthy_list (lst_at N hm) (by rw [List.size_toArray]; simp; lia) (by
    have e : (!(ws ++ [v]).toArray.isEmpty) = true := by cases ws <;> simp
    rw [e]; exact h)
theorem item_snoc {value slice : Expr} {u : Tok} {Q : Value → Shared → Prop} (N : News h₀ L s.heap nw) (hm : (D, listOf (ws ++ [v]).toArray n) ∈ nw) (hb : ws.length ≤ 1000000)
    (h : Q v s)
    (hs : subscripted slice false (.ref D) (.int (-1) u) = operate [.ref D, .int (-1) u] (getItem (.ref D) (.int (-1) u)) := by with_unfolding_all rfl) :
    wpAny (model prog w) A (subscriptTail value slice (.ref D) (.int (-1) u)) Q E s := by
  have hl := lst_at N hm
  refine tail_any hl.typeIs slot_list_getitem.lookup (wpAny_getItem_list_neg hl (by lia) (by rw [List.size_toArray, List.length_append]; simp; lia) (by lia) (x := v) ?_ h) hs
  rw [List.size_toArray, List.length_append, List.length_singleton]
  have e : ((-1 : Int) + ((ws.length + 1 : Nat) : Int)).toNat = ws.length := by lia
  rw [e]
  simp
theorem bnd_of {B : Addr} {h : Heap} (N : News h₀ L h nw) (hm : (B, bndApp D) ∈ nw) : BndAt B D h := N.get hm
end
theorem out_cases {vs : List Value} {out : List (Option Str)} (h : OutAre vs out) : (vs = [] ∧ out = []) ∨ (∃ ws os, vs = ws ++ [.none] ∧ out = os ++ [none] ∧ OutAre ws os) ∨ ∃ ws os y t, vs = ws ++ [.str y t] ∧ out = os ++ [some y] ∧ OutAre ws os := by
  induction h with
  | nil => exact .inl ⟨rfl, rfl⟩
  | star h ih =>
    rcases ih with ⟨rfl, rfl⟩ | ⟨ws, os, rfl, rfl, h'⟩ | ⟨ws, os, y, t, rfl, rfl, h'⟩
    · exact .inr (.inl ⟨[], [], rfl, rfl, .nil⟩)
    · exact .inr (.inl ⟨_, _, rfl, rfl, .star h'⟩)
    · exact .inr (.inr ⟨_, _, y, t, rfl, rfl, .star h'⟩)
  | text z k h ih =>
    rcases ih with ⟨rfl, rfl⟩ | ⟨ws, os, rfl, rfl, h'⟩ | ⟨ws, os, y, t, rfl, rfl, h'⟩
    · exact .inr (.inr ⟨[], [], z, k, rfl, rfl, .nil⟩)
    · exact .inr (.inl ⟨_, _, rfl, rfl, .text z k h'⟩)
    · exact .inr (.inr ⟨_, _, y, t, rfl, rfl, .text z k h'⟩)
theorem str_one {y : Str} (h : 1 ≤ y.length ∧ y.length ≤ 1) : y = ⟨#[y.cps.getD 0 0]⟩ := by
  obtain ⟨a⟩ := y
  have h1 : a.size = 1 := Nat.le_antisymm h.2 h.1
  congr 1
  apply Array.ext
  · simp [h1]
  · intro i h2 h3
    have : i = 0 := by lia
    subst this
    simp [h2]
section
variable {x : Str} {f i : Nat} {out fin : List (Option Str)}
theorem trF_star (hf : trF x (f + 1) i out = some fin) (hi : (i : Int) < x.length) (h : (Txt.item x (i : Int) == Str.ofString "*") = true) : trF x f (i + 1) (if out.getLast? = some none then out else out ++ [none]) = some fin := by
  have q1 : isAt x i "*" = true := h
  unfold trF at hf; rw [if_pos (by lia), q1, if_pos rfl] at hf; exact hf
theorem trF_q (hf : trF x (f + 1) i out = some fin) (hi : (i : Int) < x.length) (h : (Txt.item x (i : Int) == Str.ofString "*") = false) (h2 : (Txt.item x (i : Int) == Str.ofString "?") = true) : trF x f (i + 1) (out ++ [some (Str.ofString "?")]) = some fin := by
  have q1 : isAt x i "*" = false := h
  have q2 : isAt x i "?" = true := h2
  unfold trF at hf; rw [if_pos (by lia), q1, q2, if_neg Bool.false_ne_true, if_pos rfl] at hf; exact hf
theorem trF_open (hf : trF x (f + 1) i out = some fin) (hi : (i : Int) < x.length) (h : (Txt.item x (i : Int) == Str.ofString "*") = false) (h2 : (Txt.item x (i : Int) == Str.ofString "?") = false) (h3 : (Txt.item x (i : Int) == Str.ofString "[") = true) :
    (if jFrom x (i + 1) < x.length then (match stuffF x (i + 1) (jFrom x (i + 1)) with | none => none | some y => trF x f (jFrom x (i + 1) + 1) (out ++ [some y])) else trF x f (i + 1) (out ++ [some (Str.ofString "\\[")])) = some fin := by
  have q1 : isAt x i "*" = false := h
  have q2 : isAt x i "?" = false := h2
  have q3 : isAt x i "[" = true := h3
  unfold trF at hf; rw [if_pos (by lia), q1, q2, q3, if_neg Bool.false_ne_true, if_neg Bool.false_ne_true, if_pos rfl] at hf; exact hf
theorem trF_chr (hf : trF x (f + 1) i out = some fin) (hi : (i : Int) < x.length) (h : (Txt.item x (i : Int) == Str.ofString "*") = false) (h2 : (Txt.item x (i : Int) == Str.ofString "?") = false) (h3 : (Txt.item x (i : Int) == Str.ofString "[") = false) :
    (Txt.item x (i : Int)).cps.getD 0 0 < 128 ∧ trF x f (i + 1) (out ++ [some (escS ((Txt.item x (i : Int)).cps.getD 0 0))]) = some fin := by
  have q1 : isAt x i "*" = false := h
  have q2 : isAt x i "?" = false := h2
  have q3 : isAt x i "[" = false := h3
  unfold trF at hf; rw [if_pos (by lia), q1, q2, q3, if_neg Bool.false_ne_true, if_neg Bool.false_ne_true, if_neg Bool.false_ne_true] at hf
  split at hf
  · rename_i hc; exact ⟨hc, hf⟩
  · cases hf
theorem trF_done (hf : trF x (f + 1) i out = some fin) (hi : ¬ (i : Int) < x.length) : out = fin := by
  unfold trF at hf; rw [if_neg (by lia)] at hf; exact Option.some.inj hf
end
section
variable {x : Str} {i j : Nat}
theorem jB_ge (h : ¬ (i : Int) + 1 < x.length) : jB x (i + 1) = i + 1 := by
  unfold jB; rw [decide_eq_false (by lia)]; rfl
theorem jB_no (h : (Txt.item x ((i : Int) + 1) == Str.ofString "!") = false) : jB x (i + 1) = i + 1 := by
  have q : isAt x (i + 1) "!" = false := h
  unfold jB; rw [q, Bool.and_false]; rfl
theorem jB_yes (h : (i : Int) + 1 < x.length) (h2 : (Txt.item x ((i : Int) + 1) == Str.ofString "!") = true) : jB x (i + 1) = i + 1 + 1 := by
  have q : isAt x (i + 1) "!" = true := h2
  unfold jB; rw [q, decide_eq_true (by lia)]; rfl
theorem jC_ge (h : ¬ (j : Int) < x.length) : jC x j = j := by
  unfold jC; rw [decide_eq_false (by lia)]; rfl
theorem jC_no (h : (Txt.item x (j : Int) == Str.ofString "]") = false) : jC x j = j := by
  have q : isAt x j "]" = false := h
  unfold jC; rw [q, Bool.and_false]; rfl
theorem jC_yes (h : (j : Int) < x.length) (h2 : (Txt.item x (j : Int) == Str.ofString "]") = true) : jC x j = j + 1 := by
  have q : isAt x j "]" = true := h2
  unfold jC; rw [q, decide_eq_true (by lia)]; rfl
theorem jB_le (h : i ≤ x.length) : i ≤ jB x i ∧ jB x i ≤ x.length := by
  unfold jB; split
  · rename_i q; have := of_decide_eq_true (Bool.and_eq_true_iff.mp q).1; lia
  · lia
theorem jC_le (h : i ≤ x.length) : i ≤ jC x i ∧ jC x i ≤ x.length := by
  unfold jC; split
  · rename_i q; have := of_decide_eq_true (Bool.and_eq_true_iff.mp q).1; lia
  · lia
theorem jScan_ge (h : ¬ (j : Int) < x.length) : jScan x (x.length - j) j = j := by
  have : x.length - j = 0 := by lia
  rw [this]; rfl
theorem jScan_stop (h2 : (Txt.item x (j : Int) == Str.ofString "]") = true) : jScan x (x.length - j) j = j := by
  have q : isAt x j "]" = true := h2
  cases x.length - j with
  | zero => rfl
  | succ f => unfold jScan; rw [q, Bool.not_true, Bool.and_false]; rfl
theorem jScan_on (h : (j : Int) < x.length) (h2 : (Txt.item x (j : Int) == Str.ofString "]") = false) : jScan x (x.length - j) j = jScan x (x.length - (j + 1)) (j + 1) := by
  have q : isAt x j "]" = false := h2
  have e : x.length - j = x.length - (j + 1) + 1 := by lia
  rw [e]
  conv => lhs; unfold jScan
  rw [q, decide_eq_true (by lia)]; rfl
theorem jScan_onB (h : (j : Int) < x.length) (h2 : (!(Txt.item x (j : Int) == Str.ofString "]")) = true) : jScan x (x.length - j) j = jScan x (x.length - (j + 1)) (j + 1) := jScan_on h (by simpa using h2)
theorem jScan_stopB (h2 : (!(Txt.item x (j : Int) == Str.ofString "]")) = false) : jScan x (x.length - j) j = j := jScan_stop (by simpa using h2)
end
theorem meetJ {o : OsState} {h₀ : Heap} {L : Addr} {Led : Nat × Tok → List (Addr × Obj)} {stored : List Str} {m₀ m' : Str → Option Value} {P : Nat × Tok → Prop} {s₂ : Shared} {nw : List (Addr × Obj)} {jv : Int} {t : Tok} (j : Nat) (F : Fr h₀ L s₂.heap m') (N : News h₀ L s₂.heap nw)
    (hn : ∀ p ∈ Led (j, t), p ∈ nw) (hk : m' (Str.ofString "j") = some (.int jv t)) (hv : jv = (j : Int)) (hr : ∀ z, z ≠ Str.ofString "j" → m' z = m₀ z) (hp : P (j, t))
    (hB : Bare o s₂ := by first | assumption | exact And.right (by assumption)) :
    MeetAt o h₀ L Led (fun c => [(Str.ofString "j", .int (c.1 : Int) c.2)]) stored m₀ P s₂ := by
  subst hv
  exact meet (j, t) F N hn (List.forall_mem_cons.mpr ⟨hk, fun _ h => nomatch h⟩) (fun z hz _ => hr z (hz _ (.head _))) hp
theorem pre_of {x : Str} {i j : Nat} {f : Nat} {out fin : List (Option Str)} (h : (match stuffF x i j with | none => none | some y => trF x f (j + 1) (out ++ [some y])) = some fin) :
    ∃ y z, preF x i j = some y ∧ subF y = some z ∧ trF x f (j + 1) (out ++ [some (endF z)]) = some fin := by
  unfold stuffF at h
  cases hp : preF x i j with
  | none => rw [hp] at h; cases h
  | some y =>
    rw [hp] at h
    dsimp only at h
    cases hs : subF y with
    | none => rw [hs] at h; cases h
    | some z => rw [hs] at h; exact ⟨y, z, rfl, hs, h⟩
theorem pre_plain {x y : Str} {i j : Nat} (h : preF x i j = some y) (hc : Txt.contains (Txt.slice x (some (i : Int)) (some (j : Int))) (Str.ofString "-") = false) : y = repB (Txt.slice x (some (i : Int)) (some (j : Int))) := by
  unfold preF at h
  rw [hc, if_neg Bool.false_ne_true] at h
  exact (Option.some.inj h).symm
theorem pre_dash {x y : Str} {i j : Nat} (h : preF x i j = some y) (hc : Txt.contains (Txt.slice x (some (i : Int)) (some (j : Int))) (Str.ofString "-") = true) : dashF x i j = some y := by
  unfold preF at h
  rw [hc, if_pos rfl] at h
  exact h
theorem sub_of {y z : Str} (h : subF y = some z) : y.length ≤ 1000 ∧ ∃ l, subGo subCode y 1000 0 false = some l ∧ (l.map (·.length)).sum + l.length ≤ 100000 ∧ z = Txt.join (Str.ofString "") l := by
  unfold subF at h
  split at h
  · rename_i hl
    cases hg : subGo subCode y 1000 0 false with
    | none => rw [hg] at h; cases h
    | some l =>
      rw [hg] at h
      dsimp only at h
      split at h
      · rename_i hs; exact ⟨hl, l, rfl, hs, (Option.some.inj h).symm⟩
      · cases h
  · cases h
section
variable {z : Str}
theorem endF_nil (h : (z.length : Int) = 0) : Str.ofString "(?!)" = endF z := by
  unfold endF; rw [if_pos (by lia)]
theorem endF_dot (h : (z.length : Int) ≠ 0) (h2 : (z == Str.ofString "!") = true) : Str.ofString "." = endF z := by
  unfold endF; rw [if_neg (by lia), if_pos h2]
theorem endF_not (h : (z.length : Int) ≠ 0) (h2 : (z == Str.ofString "!") = false) (h3 : (Txt.item z 0 == Str.ofString "!") = true) : Str.empty ++ Str.ofString "[" ++ (Str.ofString "^" ++ Txt.slice z (some 1) none) ++ Str.ofString "]" = endF z := by
  unfold endF; rw [if_neg (by lia), h2, h3, if_neg Bool.false_ne_true, if_pos rfl]; rfl
theorem endF_esc (h : (z.length : Int) ≠ 0) (h2 : (z == Str.ofString "!") = false) (h3 : (Txt.item z 0 == Str.ofString "!") = false) (h4 : ([Str.ofString "^", Str.ofString "["].any fun x => x == Txt.item z 0) = true) : Str.empty ++ Str.ofString "[" ++ (Str.ofString "\\" ++ z) ++ Str.ofString "]" = endF z := by
  unfold endF; rw [if_neg (by lia), h2, h3, h4, if_neg Bool.false_ne_true, if_neg Bool.false_ne_true, if_pos rfl]; rfl
theorem endF_plain (h : (z.length : Int) ≠ 0) (h2 : (z == Str.ofString "!") = false) (h3 : (Txt.item z 0 == Str.ofString "!") = false) (h4 : ([Str.ofString "^", Str.ofString "["].any fun x => x == Txt.item z 0) = false) : Str.empty ++ Str.ofString "[" ++ z ++ Str.ofString "]" = endF z := by
  unfold endF; rw [if_neg (by lia), h2, h3, h4, if_neg Bool.false_ne_true, if_neg Bool.false_ne_true, if_neg Bool.false_ne_true]; rfl
end
end

section
open PySem PySem.W PyProof.Rows PySem.Calls
section
variable {prog : Program} {w : World} {M : Model} {A : Around} {E : Value → Shared → Prop} {s : Shared} {K : Frag} {h₀ : Heap} {L a c P : Addr} {m mg mb : Str → Option Value} {cn : Str} {cs : Scope} {ccd : Value} {cl : List (Str × Addr)} {mid ex rest : List (Addr × Obj)}
  {p : Program} {loose : List Str} {mean : ExcName → Option Value} {name qual : Str} {params : Arguments} {body : Expr} {scope : Scope} {ps : Array Value} {pos : Pos} {firstLine : Nat} {clos : List (Str × Addr)}
theorem subMethod_K {data : Data} {sl : Array (Option Value)} {b : Addr} {pl : Sem Bool} {Q : Value × List Value → Shared → Prop} (F : Fr h₀ L s.heap m) (X : K.In h₀) (hl : K.lookup b = some ⟨.type "re.Pattern", none, data, sl⟩)
    (h : Q (.builtin "re.Pattern.sub", [.ref b]) s) : wpAny (model prog w) A (getMethod (.ref b) (Str.ofString "sub") pl) Q E s :=
  getMethod_builtin ⟨_, F.keep _ _ (X _ _ hl), rfl⟩ plain_pattern slot_sub type_sub (fun a e => by cases e; exact ⟨_, F.keep _ _ (X _ _ hl), rfl⟩) h
theorem updF_head {o : Obj} {l : List (Addr × Obj)} (h : ∀ q ∈ l, q.1 ≠ P) : UpdF P o ((P, o) :: l) (fun o' => (P, o') :: l) := .head h
theorem among_snoc_ne {pos pos' : Pos} {c' : Value} (hne : ¬ (pos'.line = pos.line ∧ pos'.col = pos.col)) (l : List Value) (h : TriplesOk l) : codeAmong pos (l ++ [rawInt pos'.line, rawInt pos'.col, c']) = codeAmong pos l := by
  fun_induction TriplesOk l with
  | case1 =>
    simp only [List.nil_append, codeAmong, rawInt]
    split
    · rename_i h
      simp only [Bool.and_eq_true, beq_iff_eq, Int.ofNat_inj] at h
      exact absurd h hne
    · rfl
  | case2 a t b u x rest ih =>
    simp only [List.cons_append, codeAmong]
    split
    · rfl
    · exact ih h
  | case3 l h1 h2 => exact h.elim
theorem snoc_toList (ps : Array Value) (x y z : Value) : (ps ++ #[x, y, z]).toList = ps.toList ++ [x, y, z] := by simp
/-- the table stays good when another code is booked -/
theorem TabOk.other {pos pos' : Pos} {qual : Str} {led : List (Addr × Obj)} {ps : Array Value} {c' : Addr} (h : TabOk pos qual led ps) (hne : ¬ (pos'.line = pos.line ∧ pos'.col = pos.col)) : TabOk pos qual led (ps ++ #[rawInt pos'.line, rawInt pos'.col, .ref c']) := by
  refine ⟨by rw [snoc_toList]; exact TriplesOk_snoc _ _ _ _ h.tri, ?_⟩
  rw [snoc_toList, among_snoc_ne hne _ h.tri]
  exact h.lam
theorem lam_K {Q : Value → Shared → Prop} (F : Fr h₀ L s.heap m) (N : News h₀ L s.heap ((P, tabObj ps) :: (mid ++ (ex ++ rest)))) (hne : ∀ q ∈ mid ++ (ex ++ rest), q.1 ≠ P) (T : Top p loose mean mg mb h₀) (C : CodeHd h₀ c P) (hcd : ccd = .ref c)
    (hT : TabOk pos qual (ex ++ rest) ps) (hcl : closureFor scope (envX cn cs L a ccd cl) = pure clos)
    (h : ∀ f c' oc vs t ctv h' tk ps' ex', Fr h₀ L h' m → News h₀ L h' ((f, kla_obj name qual params body scope clos ((mg "__name__").getD .none) c' ctv) :: (P, tabObj ps') :: (mid ++ (ex' ++ rest))) → TabOk pos qual (ex' ++ rest) ps' →
      (∀ q ∈ ex', q ∈ ex ∨ ∀ z ∈ (P, tabObj ps) :: (mid ++ (ex ++ rest)), z.1 < q.1) → (c', oc) ∈ ex' ++ rest → oc.data = .fields vs → vs[1]? = some (.str qual t) → (∀ z ∈ (P, tabObj ps) :: (mid ++ (ex ++ rest)), z.1 < f) → Q (.ref f) { s with heap := h', toks := tk }) :
    wpAny M A (makeFunction name qual params (.expr body) scope (envX cn cs L a ccd cl) [] [] [] pos firstLine) Q E s := by
  rcases hT.lam with hf | ⟨c', oc, vs, t, hf, hm, hd, hv⟩
  · refine kla_nest F N T C hcd (updF_head hne) hT.tri hf hcl fun f c' oc vs t ctv h' tk F' N' hd hv hlt hcf => ?_
    have hN : News h₀ L h' ((f, kla_obj name qual params body scope clos ((mg "__name__").getD .none) c' ctv) :: (P, tabObj (ps ++ #[rawInt pos.line, rawInt pos.col, .ref c'])) :: (mid ++ (((c', oc) :: ex) ++ rest))) := fun q hq => by
      refine N' q ?_
      simp only [List.mem_cons, List.mem_append] at hq ⊢
      rcases hq with h | h | h | (h | h) | h <;> simp [h]
    refine h f c' oc vs t ctv h' tk _ ((c', oc) :: ex) F' hN ⟨?_, .inr ⟨c', oc, vs, t, ?_, ?_, hd, hv⟩⟩ (fun q hq => ?_) (List.mem_append_left _ (.head _)) hd hv (fun z hz => Nat.lt_trans (hlt z hz) hcf)
    · rw [snoc_toList]; exact TriplesOk_snoc _ _ _ _ hT.tri
    · rw [snoc_toList]; exact codeAmong_snoc _ hT.tri hf
    · exact List.mem_append_left _ (.head _)
    · rcases List.mem_cons.mp hq with rfl | hq
      · exact .inr hlt
      · exact .inl hq
  · refine kla_hit F N T C hcd (.head _) hT.tri hf hcl fun f ctv h' tk F' N' hlt => ?_
    exact h f c' oc vs t ctv h' tk ps ex F' N' hT (fun q hq => .inl hq) hm hd hv hlt
end
end

section
open PySem PySem.W PyProof.Rows PySem.Calls PySem.Builtin.Re
section
variable {prog : Program} {w : World} {A : Around} {E : Value → Shared → Prop} {s : Shared} {h₀ : Heap} {L a tp p : Addr} {m : Str → Option Value} {nw : List (Addr × Obj)} {x : Str} {tx u : Tok} {lim b0 e0 b e : Nat} {li : Int}
theorem groupMethod_K {pl : Sem Bool} {Q : Value × List Value → Shared → Prop} (N : News h₀ L s.heap nw) (hm : (a, mobj p x tx lim li tp) ∈ nw)
    (h : Q (.builtin "re.Match.group", [.ref a]) s) : wpAny (model prog w) A (getMethod (.ref a) (Str.ofString "group") pl) Q E s :=
  getMethod_builtin ⟨_, N.get hm, rfl⟩ plain_match slot_group type_group (fun a e => by cases e; exact ⟨_, N.get hm, rfl⟩) h
theorem group_K {Q : Value → Shared → Prop} (N : News h₀ L s.heap nw) (hm : (a, mobj p x tx lim li tp) ∈ nw) (ht : (tp, mtup b0 e0 b e) ∈ nw) (hx : x.length ≤ 100000)
    (h : ∀ t', (⟨x.cps.extract b e⟩ : Str).length ≤ 100000 → Q (.str ⟨x.cps.extract b e⟩ t') { s with toks := s.toks + 1 }) : wpAny (model prog w) A (call (.builtin "re.Match.group") [.ref a, .int 1 u]) Q E s := by
  have hT : s.TypeIs (.ref a) "re.Match" := ⟨_, N.get hm, rfl⟩
  refine wpAny_call (codeAny_call_builtin slot_group.plain entry_group (slot_group.check _ _ _ _ _ _ _ _ hT (args_group _ _) ?_))
  unfold Builtin.«re.Match.group»
  refine wpAny_bind (wpAny_of_eq (a := ()) rfl ?_)
  show wpAny _ _ (reFound (.ref a) >>= _) _ _ s
  have hz1 : ∀ Q' : ReFound → Shared → Prop, Q' ⟨#[.str x tx, .ref p, rawInt (0 : Nat), rawInt lim, rawInt li, .ref tp], #[(b0 : Int), e0, b, e]⟩ s → ∀ A' E', wpAny (model prog w) A' (reFound (.ref a)) Q' E' s := fun Q' hq A' E' => by
    unfold reFound
    refine wpAny_bind (wpAny_fieldsOf (N.get hm) rfl ?_)
    unfold reRawItems
    refine wpAny_bind (wpAny_bind (wpAny_seqItems (N.get ht) rfl (wpAny_pure (wpAny_pure ?_))))
    have e9 : Array.map reRawOf ((some #[rawInt (b0 : Int), rawInt e0, rawInt b, rawInt e]).getD #[]) = #[(b0 : Int), e0, b, e] := by simp [reRawOf, rawInt]
    rw [e9]
    exact hq
  refine wpAny_bind (hz1 _ ?_ _ _)
  dsimp only
  have hg : reGroupNumber ⟨#[.str x tx, .ref p, rawInt (0 : Nat), rawInt lim, rawInt li, .ref tp], #[(b0 : Int), e0, b, e]⟩ (.int 1 u) = pure 1 := by
    unfold reGroupNumber
    rfl
  rw [hg]
  refine wpAny_bind (wpAny_pure ?_)
  unfold reGroupText
  have hb : ((b : Int) < 0 || (e : Int) < 0) = false := by
    simp
  show wpAny _ _ ((if ((b : Int) < 0 || (e : Int) < 0) = true then pure .none else _) >>= _) _ _ s
  rw [hb, if_neg Bool.false_ne_true]
  refine wpAny_bind ?_
  have ht2 : reTextOf (.str x tx) = pure (x.cps, 0) := rfl
  show wpAny _ _ (reTextOf (.str x tx) >>= _) _ _ s
  rw [ht2]
  refine wpAny_bind (wpAny_pure ?_)
  show wpAny _ _ (mkStr ⟨x.cps.extract b e⟩) _ _ s
  have hle : (⟨x.cps.extract b e⟩ : Str).length ≤ 100000 := by
    have : (x.cps.extract b e).size ≤ x.cps.size := by simp; lia
    exact Nat.le_trans this hx
  refine wpAny_mkStr (wpAny_pure (h _ hle)) ?_
  rw [sizeLine_eq]
  lia
end
end

section
open PySem PySem.W PyProof.Rows PySem.Calls PySem.Builtin PySem.Builtin.Str
theorem args_find4 (a b c d : Value) : argsOk "str.find" ⟨[a, b, c, d], []⟩ := by unfold argsOk; kernel_rfl
theorem gives_find4 (x y : Str) (i j : Nat) (t u v w : Tok) (hj : j ≤ x.length) : Gives («str.find» ⟨[.str x t, .str y u, .int (i : Int) v, .int (j : Int) w], []⟩) (.int (match occurrences x y i j 1 with | k :: _ => (k : Int) | [] => -1)) := by
  have e : «str.find» ⟨[.str x t, .str y u, .int (i : Int) v, .int (j : Int) w], []⟩ = (match occurrences x y (fromIndex x.length i) (min (fromIndex x.length j) x.length) 1 with | k :: _ => retInt k | [] => (do rule "str.find.not-found"; retInt (-1))) := rfl
  have e1 : fromIndex x.length (i : Int) = i := by unfold fromIndex; rw [if_neg (int_nn i)]; exact max0_nat i
  have e2 : fromIndex x.length (j : Int) = j := by unfold fromIndex; rw [if_neg (int_nn j)]; exact max0_nat j
  rw [e, e1, e2, Nat.min_eq_left hj]
  cases occurrences x y i j 1 with
  | nil => exact .rule (.of_eq rfl)
  | cons k _ => exact .of_eq rfl
section
variable {prog : Program} {w : World} {A : Around} {E : Value → Shared → Prop} {s : Shared} {x y : Str} {t u v1 v2 : Tok} {i j : Nat} {Q : Value → Shared → Prop}
theorem find4 (hj : j ≤ x.length) (hq : Q (.int (match occurrences x y i j 1 with | k :: _ => (k : Int) | [] => -1) s.toks) { s with toks := s.toks + 1 }) : wpAny (model prog w) A (call (.builtin "str.find") [.str x t, .str y u, .int (i : Int) v1, .int (j : Int) v2]) Q E s :=
  call_gives PySem.F.slot_str_find (typeIs_str _ _ _) PySem.F.entry_str_find (args_find4 _ _ _ _) (gives_find4 x y i j t u v1 v2 hj) hq
end
end

section
open PySem PySem.W PyProof.Rows PySem.Calls PySem.Spec
/-! a generator expression whose element may lean on tokens being made already -/
section
variable {prog : Program} {w : World} {A : Around}
noncomputable def EltT (prog : Program) (w : World) (cenv : Env) (x : Str) (elt : Expr) (P : Nat → Value → Prop) (F : Nat → Value → Prop) : Prop :=
  ∀ (A' : Around) E' i v (s₂ : Shared) m₂, A'.handled = none → P i v → 0 < s₂.toks → s₂.heap.Ns cenv.locals m₂ → m₂ x = some v →
    wpAny (model prog w) A' (eval elt cenv) (fun y s₃ => F i y ∧ Keeps s₂ s₃) E' s₂
theorem loopT {elt iter : Expr} {x : Str} {px : Pos} {scope : Scope} {pos : Pos} {I : Addr} {fp wr : List Addr} {n : Nat} {P : Nat → Value → Prop} {St₀ : Nat → Heap → Prop} {cenv : Env}
    (hh : A.handled = none) (W₀ : ∀ A' : Around, A'.handled = none → Walks prog w A' I fp wr n P St₀) (F : Nat → Value → Prop)
    (hx : cenv.kindOf x = some .local) (hp : (cenv.scope.kind == .class || (cenv.scope.kind == .module && cenv.locals != cenv.globals)) = false)
    (hco : cenv.scope.isCoroutine = false) (hCf : cenv.locals ∉ fp) (hq : EltT prog w cenv x elt P F) :
    ∀ (k i : Nat) (s₀ s : Shared) (m : Str → Option Value), n - i = k → i ≤ n → St₀ i s.heap → s.heap.Ns cenv.locals m → GenSince cenv.locals wr s₀ s →
      Seg (model prog w) A (fun n s₀ r s₁ => r = .ok .next ∧ (n = 0 ∧ GenSince cenv.locals wr s₀ s₁)) (genProto cenv.locals fp wr (fun _ => true) n F) (passing (fun _ => true) n i).length s₀
        (.compLoop (.GeneratorExp elt [⟨.Name x px, iter, [], 0⟩] scope pos) 0 (.ref I) .none cenv)
        ((model prog w).den (.compLoop (.GeneratorExp elt [⟨.Name x px, iter, [], 0⟩] scope pos) 0 (.ref I) .none cenv)) [] s := by
  have hh' : (A.over (.compLoop (.GeneratorExp elt [⟨.Name x px, iter, [], 0⟩] scope pos) 0 (.ref I) .none cenv) []).handled = none := hh
  have hCw : cenv.locals ∉ wr := fun h => hCf ((W₀ A hh).sub _ h)
  intro k
  induction k with
  | zero =>
    intro i s₀ s m hk hi hst hn hsince
    obtain rfl : n = i := by lia
    rw [passing_end]
    show Seg _ A _ _ _ s₀ _ ((compTurn (.GeneratorExp elt [⟨.Name x px, iter, [], 0⟩] scope pos) 0 (.ref I) .none cenv).onRaise (leaving cenv)) [] s
    rw [compTurn_gen, Sem.onRaise_eq_wrap]
    refine seg_bind_wrap (wpAny_standAt (seg_bind_wrap ((W₀ _ hh').done s _ _ hst fun h' tk hk' => ?_)))
    exact seg_end (.ok .next) ⟨rfl, rfl, hsince.step fun b o _ hw e => hk' b o hw e⟩
  | succ k ih =>
    intro i s₀ s m hk hi hst hn hsince
    have hlt : i < n := by lia
    rw [passing_true hlt rfl, List.length_cons]
    show Seg _ A _ _ _ s₀ _ ((compTurn (.GeneratorExp elt [⟨.Name x px, iter, [], 0⟩] scope pos) 0 (.ref I) .none cenv).onRaise (leaving cenv)) [] s
    rw [compTurn_gen, Sem.onRaise_eq_wrap]
    refine seg_bind_wrap (wpAny_standAt (seg_bind_wrap ((W₀ _ hh').item i s _ _ hlt hst fun v h₁ tk₁ hPv hst₁ hk₁ => ?_)))
    refine seg_bind_wrap (wpAny_of_eq (rfl : letOwnedTupleGo (.Name x px) (.ref I) v = pure ()) ?_)
    refine seg_bind_wrap (wpAny_assign_Name (wpAny_storeName_local hx (hn.at' fun o e => hk₁ _ o hCw e) (fun h₂ hn₂ hs₂ => ?_) hp))
    have up : ∀ b o, b ≠ cenv.locals → b ∉ wr → s.heap.get? b = some o → h₂.get? b = some o := fun b o hb hw e => hs₂.extBut b o hb (hk₁ b o hw e)
    have hst₂ : St₀ (i + 1) h₂ := (W₀ A hh).frame _ _ _ hst₁ fun b hb o e => hs₂.extBut b o (fun h => hCf (h ▸ hb)) e
    refine seg_bind_wrap (wpAny_pure ?_)
    simp only [if_true]
    have hy : ∀ v, yieldOut cenv v = yieldValue v := fun v => by simp only [yieldOut, hco, Bool.false_eq_true, if_false]
    simp only [hy]
    rw [Sem.bind_eq_wrap', Sem.bind_eq_wrap', Sem.wrap_wrap, Sem.wrap_wrap]
    refine seg_wrap (wpAny_mono (hq _ _ i v _ _ hh' hPv (Nat.succ_pos tk₁) hn₂ (by simp)) (fun y s₄ h₄ => ?_) fun _ _ e => e)
    refine Classical.byContradiction fun hng9 => ?_
    obtain ⟨hF, h₄, tk₄, rfl, hk₄⟩ := h₄
    refine hng9 ?_
    clear hng9
    refine seg_at (seg_yield rfl rfl rfl ⟨⟨i, passing_here hlt rfl, hF⟩, hsince.step fun b o hb hw e => hk₄ b o (up b o hb hw e), fun s'' hal => ?_⟩)
    exact seg_again rfl (ih (i + 1) s'' s'' _ (by lia) hlt ((W₀ A hh).frame _ _ _ hst₂ fun b hb o e => hal b (List.mem_cons_of_mem _ hb) o (hk₄ b o e))
      ((hn₂.keeps hk₄).at' fun o e => hal _ (List.mem_cons_self ..) o e) (GenSince.refl _ _ _))
theorem startT {elt iter : Expr} {x : Str} {px : Pos} {scope : Scope} {pos : Pos} {I a : Addr} {g : Nat} {fp wr : List Addr} {n : Nat} {P : Nat → Value → Prop} {St₀ : Nat → Heap → Prop} {cenv : Env}
    (hh : A.handled = none) (W₀ : ∀ A' : Around, A'.handled = none → Walks prog w A' I fp wr n P St₀) (F : Nat → Value → Prop)
    (hx : cenv.kindOf x = some .local) (hp : (cenv.scope.kind == .class || (cenv.scope.kind == .module && cenv.locals != cenv.globals)) = false)
    (hco : cenv.scope.isCoroutine = false) (hCf : cenv.locals ∉ fp) {s : Shared} {m : Str → Option Value} (hq : EltT prog w cenv x elt P F)
    (hg : s.heap.IsGen a g) (hgs : s.gens[g]? = some (.fresh (.compStart (.GeneratorExp elt [⟨.Name x px, iter, [], 0⟩] scope pos) 0 (.ref I) .none cenv)))
    (hst : St₀ 0 s.heap) (hn : s.heap.Ns cenv.locals m) (hl : s.heap.NoLimit) : GenAt prog w A a g cenv.locals fp wr (fun _ => true) n F 0 s := by
  refine ⟨hg, hl, _, hgs, fun s'' hal => ⟨rfl, ?_⟩⟩
  have hst' := (W₀ A hh).frame _ _ _ hst fun b hb o e => hal b (List.mem_cons_of_mem _ hb) o e
  have loop := loopT (A := A.in1) (iter := iter) (px := px) (scope := scope) (pos := pos) hh W₀ F hx hp hco hCf hq n 0 s'' s'' m (by lia) (Nat.zero_le _) hst' (hn.at' fun o e => hal _ (List.mem_cons_self ..) o e) (GenSince.refl _ _ _)
  have hh' : (A.in1.over (.compStart (.GeneratorExp elt [⟨.Name x px, iter, [], 0⟩] scope pos) 0 (.ref I) .none cenv) []).handled = none := hh
  show Seg _ A.in1 _ _ _ s'' _ ((compStart (.GeneratorExp elt [⟨.Name x px, iter, [], 0⟩] scope pos) 0 (.ref I) .none cenv).onRaise (leaving cenv)) [] s''
  unfold compStart
  rw [Sem.onRaise_eq_wrap]
  show Seg _ A.in1 _ _ _ s'' _ ((ask >>= _).wrap _ _ _ _) [] s''
  refine seg_bind_wrap (wpAny_askSetting ?_)
  split
  · exact seg_again rfl loop
  · exact seg_bind_wrap (wpAny_rule (seg_bind_wrap (wpAny_standAt (seg_bind_wrap ((W₀ _ hh').self 0 s'' _ _ hst' (seg_again rfl loop))))))
end
section
variable {prog : Program} {w : World} {A : Around} {E : Value → Shared → Prop} {s : Shared} {h₀ : Heap} {L c P : Addr} {m mg mb : Str → Option Value} {news : List (Addr × Obj)} {g : Obj → List (Addr × Obj)}
  {p : Program} {loose : List Str} {mean : ExcName → Option Value} {ps : Array Value}
theorem gen_KT {env : Env} {elt iter : Expr} {x : Str} {px : Pos} {scope : Scope} {pos : Pos} {Q : Value → Shared → Prop} {D : Addr} {vs : List Value} {xs : List Str} {f : Str → Str}
    (F : Fr h₀ L s.heap m) (N : News h₀ L s.heap news) (T : Top p loose mean mg mb h₀) (C : CodeHd h₀ c P) (hcode : env.code = .ref c) (hge : env.globals = mainGlobals) (U : UpdF P (tabObj ps) news g) (ht : TriplesOk ps.toList)
    (hh : A.handled = none) (hco : scope.isCoroutine = false) (hclos : closureFor scope env = pure []) (hcell : ∀ y ∈ scope.names, y.2 ≠ .cell) (h0 : scope.names.lookup (".0" : Str) = some NameKind.local)
    (hx : scope.names.lookup x = some .local) (hkind : scope.kind = .function) (hroom : A.depth < recursionLimit) (hs : ∀ x, genFold iter env x = pure x)
    (hi : ∀ Q' : Value → Shared → Prop, Q' (.ref D) s → wpAny (model prog w) A (eval iter env) Q' E s)
    (hl : s.heap.IsList D vs.toArray) (hS : StrsAre vs xs)
    (helt : ∀ (C : Addr) (code : Value) (A' : Around) E' (y : Str) (t : Tok) (s₂ : Shared) m₂, A'.handled = none → y ∈ xs → 0 < s₂.toks → s₂.heap.Ns (genEnv scope [] C code builtinsNs env).locals m₂ → m₂ x = some (.str y t) →
          wpAny (model prog w) A' (eval elt (genEnv scope [] C code builtinsNs env)) (fun v s₃ => (∃ u, v = .str (f y) u) ∧ Keeps s₂ s₃) E' s₂)
    (h : ∀ (a : Addr) (s' : Shared) (ps' : Array Value), (ps' = ps ∨ ∃ c', codeAmong pos ps.toList = none ∧ ps' = ps ++ #[rawInt pos.line, rawInt pos.col, .ref c']) → TriplesOk ps'.toList → (∀ o, Bare o s → Bare o s') → Fr h₀ L s'.heap m → News h₀ L s'.heap (g (tabObj ps')) →
      GenX prog w A L a xs f (g (tabObj ps')) s' → Q (.ref a) s') :
    wpAny (model prog w) A (eval (.GeneratorExp elt [⟨.Name x px, iter, [], 0⟩] scope pos) env) Q E s := by
  refine Classical.byContradiction fun hng9 => ?_
  obtain ⟨own, rest, rfl, hgr, h1, h2⟩ := U.split
  refine hng9 ?_
  clear hng9
  have hm := N (P, tabObj ps) (List.mem_append_right _ (.head _))
  have hgs := T.g.keeps F.keep
  refine Classical.byContradiction fun hng9 => ?_
  obtain ⟨bm, ob, b1, b2, b3, b4, b5, b6⟩ := T.bmain
  refine hng9 ?_
  clear hng9
  have hlt : D < s.heap.objs.size := by obtain ⟨_, e, _⟩ := hl; exact Heap.lt_size e
  have hPlt : P < s.heap.objs.size := Heap.lt_size hm.1
  have hlP : D ≠ P := fun e => by
    refine Classical.byContradiction fun hng9 => ?_
    obtain ⟨o, ho, hc, _⟩ := hl
    refine hng9 ?_
    clear hng9
    rw [e, hm.1] at ho; cases ho; cases hc
  have hlim := T.nolimit.keeps F.keep
  have hLs : L < s.heap.objs.size := F.ns.lt
  refine wpAny_GeneratorExp_make hco hclos hcell h0 hkind hroom (hi _ ?_) hs
  refine wpAny_pyIter_list hl ⟨hlim.push _, ?_⟩
  have hk₂ : ∀ b o, s.heap.get? b = some o → (s.heap.push { cls := .type "list_iterator", data := .fields #[.ref D, .int 0 0] }).get? b = some o := fun b o e => Heap.get?_push_of_some _ e
  have hI : (s.heap.push { cls := .type "list_iterator", data := .fields #[.ref D, .int 0 0] }).get? s.heap.objs.size = some { cls := .type "list_iterator", data := .fields #[.ref D, .int 0 0] } := Heap.get?_push_size _ rfl
  have hs₂ : (s.heap.push { cls := .type "list_iterator", data := .fields #[.ref D, .int 0 0] }).objs.size = s.heap.objs.size + 1 := Heap.size_push ..
  generalize s.heap.push { cls := .type "list_iterator", data := .fields #[.ref D, .int 0 0] } = H₂ at hk₂ hI hs₂ ⊢
  have hcode' : wpAny (model prog w) A (genexprCode env pos (env.qual ++ "<genexpr>") scope) (fun code s₃ => ∃ h₃ tk ps', s₃ = { s with heap := h₃, toks := tk } ∧ Heap.ExtBut P H₂ h₃ ∧ H₂.objs.size ≤ h₃.objs.size ∧ h₃.get? P = some (tabObj ps') ∧ TriplesOk ps'.toList ∧
      (ps' = ps ∨ ∃ c', codeAmong pos ps.toList = none ∧ ps' = ps ++ #[rawInt pos.line, rawInt pos.col, .ref c'])) E { s with heap := H₂ } := by
    cases hf : codeAmong pos ps.toList with
    | some c' => exact wpAny_genexprCode_hit hcode ((C.keeps fun b o e => hk₂ b o (F.keep b o e)).code (hk₂ _ _ hm.1) ht) hf ⟨H₂, s.toks, ps, rfl, fun b o _ e => e, Nat.le_refl _, hk₂ _ _ hm.1, ht, .inl rfl⟩
    | none =>
      refine wpAny_genexprCodeX hcode ((C.keeps fun b o e => hk₂ b o (F.keep b o e)).code (hk₂ _ _ hm.1) ht) ((C.keeps fun b o e => hk₂ b o (F.keep b o e)).tab (hk₂ _ _ hm.1)) hf fun c' h₃ tk₃ hx₃ hg3 hlt₃ hcode₃ _ htab₃ _ => ?_
      refine ⟨h₃, tk₃, _, rfl, hx₃, Nat.le_trans hg3 (Nat.le_of_lt hlt₃), htab₃.2, ?_, .inr ⟨c', rfl, rfl⟩⟩
      have e2 : (ps ++ #[rawInt pos.line, rawInt pos.col, Value.ref c']).toList = ps.toList ++ [rawInt pos.line, rawInt pos.col, .ref c'] := by simp
      rw [e2]; exact TriplesOk_snoc _ _ _ _ ht
  refine wpAny_mono hcode' (fun code s₃ h₃' => ?_) fun _ _ e => e
  refine Classical.byContradiction fun hng9 => ?_
  obtain ⟨h₃, tk₃, ps', rfl, hx₃, hsz₃, hP₃, ht', hps⟩ := h₃'
  refine hng9 ?_
  clear hng9
  have old : ∀ b o, h₀.get? b = some o → h₃.get? b = some o := fun b o e => hx₃ b o (fun q => by rw [q, hm.2.2] at e; cases e) (hk₂ b o (F.keep b o e))
  rw [hge]
  refine wpAny_builtinsFor (T.g.keeps old) b1 b2 (old _ _ b3) b4 b5 b6 fun h₄ hn₄ hs₄ => ?_
  have lt₃ : s.heap.objs.size < h₃.objs.size := by lia
  have hl₃ : h₃.IsList D vs.toArray := by
    refine Classical.byContradiction fun hng9 => ?_
    obtain ⟨o, e, r⟩ := hl
    refine hng9 ?_
    clear hng9
    exact ⟨o, hx₃ _ _ hlP (hk₂ _ _ e), r⟩
  have hne : D ≠ s.heap.objs.size := Nat.ne_of_lt hlt
  have hIP : s.heap.objs.size ≠ P := Ne.symm (Nat.ne_of_lt hPlt)
  have hcs : cStatics < s.heap.objs.size := let ⟨_, hns, _⟩ := hlim; hns.lt
  have hsz₄ : h₄.objs.size = h₃.objs.size + 1 := by rw [hs₄.1, Heap.size_push]
  have keep₄ : ∀ b o, h₃.get? b = some o → h₄.get? b = some o := fun b o e => hs₄.extBut b o (Nat.ne_of_lt (Heap.lt_size e)) (Heap.get?_push_of_some _ e)
  have W₀ : ∀ A' : Around, A'.handled = none → Walks prog w A' s.heap.objs.size [s.heap.objs.size, D] [s.heap.objs.size] vs.toArray.size (fun i v => vs.toArray[i]? = some v) _ := fun A' hA => Walks.list hA _ _ hne vs.toArray
  have hlen : vs.toArray.size = xs.length := by rw [List.size_toArray]; exact hS.len_eq
  have hsub : ∀ b ∈ [s.heap.objs.size], b ∈ List.range h₃.objs.size := fun b hb => by rw [List.mem_singleton.mp hb]; exact List.mem_range.mpr lt₃
  have haf : h₄.objs.size ∉ List.range h₃.objs.size := fun hm => by have := List.mem_range.mp hm; lia
  have hCf : h₃.objs.size ∉ List.range h₃.objs.size := fun hm => Nat.lt_irrefl _ (List.mem_range.mp hm)
  have hcw : cStatics ∉ [s.heap.objs.size] := fun e => absurd hcs (by rw [List.mem_singleton.mp e]; exact Nat.lt_irrefl _)
  let gv : Obj := { cls := .type "generator", data := .fields #[.int s.gens.size 0, .str "<genexpr>" (tk₃ + 1), .str (env.qual ++ "<genexpr>") (tk₃ + 1 + 1)] }
  have hk₅ : ∀ b o, h₃.get? b = some o → (h₄.push gv).get? b = some o := fun b o e => Heap.get?_push_of_some _ (keep₄ b o e)
  have hlim₅ : (h₄.push gv).NoLimit := T.nolimit.keeps fun b o e => hk₅ b o (old b o e)
  have W := WalksS.genexpQ (prog := prog) (w := w) (A := A.in4) hh h₄.objs.size s.gens.size h₃.objs.size (List.range h₃.objs.size) [s.heap.objs.size] (fun _ => true) vs.toArray.size (fun i v => ∃ u, v = .str (f (xs.getD i "")) u)
    (by rw [hsz₄]; exact Nat.succ_ne_self _) haf hsub hroom (List.mem_range.mpr (Nat.lt_trans hcs lt₃)) (Nat.ne_of_lt (Nat.lt_trans hcs lt₃)) hcw
  have hat : ∀ (i : Nat) (v : Value), vs.toArray[i]? = some v → ∃ t, v = Value.str (xs.getD i "") t ∧ xs.getD i "" ∈ xs := fun i v hv => by
    refine Classical.byContradiction fun hng9 => ?_
    obtain ⟨y, t, e1, e2⟩ := hS.item i v (by simpa using hv)
    refine hng9 ?_
    clear hng9
    refine ⟨t, by rw [e1]; simp [List.getD_eq_getElem?_getD, e2], ?_⟩
    simp only [List.getD_eq_getElem?_getD, e2, Option.getD_some]
    exact List.mem_of_getElem? e2
  have hst := startT (prog := prog) (w := w) (A := A.in4) (elt := elt) (iter := iter) (px := px) (scope := scope) (pos := pos) (a := h₄.objs.size) (g := s.gens.size) (cenv := genEnv scope [] h₃.objs.size code builtinsNs env)
    (s := { s with gens := s.gens.push (.fresh (.compStart (.GeneratorExp elt [⟨.Name x px, iter, [], 0⟩] scope pos) 0 (.ref s.heap.objs.size) .none (genEnv scope [] h₃.objs.size code builtinsNs env))), toks := tk₃ + 1 + 1 + 1, heap := h₄.push gv })
    (fp := List.range h₃.objs.size) (m := fun y => if y = ".0" then some (.ref s.heap.objs.size) else none) hh (fun A' hA => (W₀ A' hA).mono_fp fun b hb => by
      rcases List.mem_cons.mp hb with rfl | hb
      · exact List.mem_range.mpr lt₃
      · rw [List.mem_singleton.mp hb]; exact List.mem_range.mpr (Nat.lt_trans hlt lt₃)) (fun i v => ∃ u, v = .str (f (xs.getD i "")) u) hx (by simp [genEnv, hkind]) hco hCf
    (fun A' E' i v s₂ m₂ hA hP h02 hn hmx => by
      refine Classical.byContradiction fun hng9 => ?_
      obtain ⟨t, rfl, hmem⟩ := hat i v hP
      refine hng9 ?_
      clear hng9
      exact helt _ code A' E' _ t s₂ m₂ hA hmem h02 hn hmx) ⟨_, _, _, Heap.get?_push_size _ rfl, rfl, rfl, rfl⟩ (Array.getElem?_push_size ..)
    ((W₀ A hh).frame 0 h₃ _ ⟨⟨_, hx₃ _ _ hIP hI, rfl, rfl⟩, hl₃⟩ fun b _ o e => hk₅ b o e) (hn₄.push _) hlim₅
  rw [pass_all, List.length_range] at W
  have N₅ : News h₀ L (h₄.push gv) (own ++ (P, tabObj ps') :: rest) := fun q hq => by
    rcases List.mem_append.mp hq with hq | hq
    · have n := N q (List.mem_append_left _ hq)
      exact ⟨hk₅ _ _ (hx₃ _ _ (h1 q hq) (hk₂ _ _ n.1)), n.2⟩
    · rcases List.mem_cons.mp hq with rfl | hq
      · exact ⟨hk₅ _ _ hP₃, hm.2⟩
      · have n := N q (List.mem_append_right _ (.tail _ hq))
        exact ⟨hk₅ _ _ (hx₃ _ _ (h2 q hq) (hk₂ _ _ n.1)), n.2⟩
  have hltN : ∀ q ∈ own ++ (P, tabObj ps') :: rest, q.1 < s.heap.objs.size := fun q hq => by
    rcases List.mem_append.mp hq with hq | hq
    · exact Heap.lt_size (N q (List.mem_append_left _ hq)).1
    · rcases List.mem_cons.mp hq with rfl | hq
      · exact hPlt
      · exact Heap.lt_size (N q (List.mem_append_right _ (.tail _ hq))).1
  have hwr : ∀ b ∈ h₃.objs.size :: [s.heap.objs.size], s.heap.objs.size ≤ b := fun b hb => by
    rcases List.mem_cons.mp hb with rfl | hb
    · exact Nat.le_of_lt lt₃
    · rw [List.mem_singleton.mp hb]; exact Nat.le_refl _
  have hPL : P ≠ L := hm.2.1
  rw [hlen] at W hst
  refine h h₄.objs.size _ ps' hps ht' (fun o hB => ⟨AllBare.push hB.1 rfl, hB.2⟩) ⟨((F.ns.keeps hk₂).extBut hx₃ (Ne.symm hPL)).keeps hk₅, fun b o e => hk₅ b o (old b o e), F.above⟩ (by rw [hgr]; exact N₅) ⟨_, _, _, _, W, hst, fun i s' st => st.1.typeIs, List.mem_cons_self, ?_, ?_, ?_⟩
  · intro b hb
    show b < (h₄.push gv).objs.size
    rw [Heap.size_push]
    rcases List.mem_cons.mp hb with rfl | hb
    · exact Nat.lt_succ_self _
    · rcases List.mem_cons.mp hb with rfl | hb
      · rw [hsz₄]; exact Nat.lt_succ_of_lt (Nat.lt_succ_self _)
      · rw [hsz₄]; exact Nat.lt_succ_of_lt (Nat.lt_succ_of_lt (List.mem_range.mp hb))
  · intro b hb
    exact Nat.lt_of_lt_of_le hLs (hwr b hb)
  · intro b hb q hq
    rw [hgr] at hq
    exact Nat.ne_of_lt (Nat.lt_of_lt_of_le (hltN q hq) (hwr b hb))
end
end

section
open PySem PySem.W PyProof.Rows PySem.Calls PySem.Builtin PySem.Builtin.Str
section
variable {prog : Program} {w : World} {A : Around} {E : Value → Shared → Prop} {s : Shared} {x y : Str} {t u v1 v2 : Tok} {i j : Nat} {Q : Value → Shared → Prop}
theorem find4_some {k : Nat} {r : List Nat} {iv jv : Int} (hi : iv = (i : Int)) (hjv : jv = (j : Int)) (ho : occurrences x y i j 1 = k :: r) (hj : j ≤ x.length) (hq : Q (.int (k : Int) s.toks) { s with toks := s.toks + 1 }) : wpAny (model prog w) A (call (.builtin "str.find") [.str x t, .str y u, .int iv v1, .int jv v2]) Q E s := by
  subst hi hjv
  refine find4 hj ?_
  rw [ho]; exact hq
theorem find4_none {iv jv : Int} (hi : iv = (i : Int)) (hjv : jv = (j : Int)) (ho : occurrences x y i j 1 = []) (hj : j ≤ x.length) (hq : Q (.int (-1) s.toks) { s with toks := s.toks + 1 }) : wpAny (model prog w) A (call (.builtin "str.find") [.str x t, .str y u, .int iv v1, .int jv v2]) Q E s := by
  subst hi hjv
  refine find4 hj ?_
  rw [ho]; exact hq
end
theorem chunk_end {x : Str} {j f i k : Nat} {cs : List Str} {r : Nat × List Str} (h : chunkF x j (f + 1) i k cs = some r) (ho : occurrences x (Str.ofString "-") k j 1 = []) : r = (i, cs) := by
  unfold chunkF at h
  rw [ho] at h
  exact (Option.some.inj h).symm
theorem chunk_step {x : Str} {j f i k k' : Nat} {l : List Nat} {cs : List Str} {r : Nat × List Str} (h : chunkF x j (f + 1) i k cs = some r) (ho : occurrences x (Str.ofString "-") k j 1 = k' :: l) :
    i ≤ k' ∧ k' < j ∧ chunkF x j f (k' + 1) (k' + 3) (cs ++ [Txt.slice x (some (i : Int)) (some (k' : Int))]) = some r := by
  unfold chunkF at h
  rw [ho] at h
  dsimp only at h
  split at h
  · rename_i q; exact ⟨q.1, q.2, h⟩
  · cases h
theorem dash_of {x y : Str} {i j : Nat} (h : dashF x i j = some y) : ∃ iF csF cs2 cs3, chunkF x j x.length i (if isAt x i "!" then i + 2 else i + 1) [] = some (iF, csF) ∧
    ((Txt.slice x (some (iF : Int)) (some (j : Int))).length ≠ 0 → cs2 = csF ++ [Txt.slice x (some (iF : Int)) (some (j : Int))]) ∧
    ((Txt.slice x (some (iF : Int)) (some (j : Int))).length = 0 → ∃ l, csF = [l] ∧ cs2 = [l ++ Str.ofString "-"]) ∧
    mergeF cs2 = some cs3 ∧ y = Txt.join (Str.ofString "-") (cs3.map rep2) := by
  unfold dashF at h
  cases hc : chunkF x j x.length i (if isAt x i "!" then i + 2 else i + 1) [] with
  | none => rw [hc] at h; cases h
  | some p =>
    obtain ⟨iF, csF⟩ := p
    rw [hc] at h
    dsimp only at h
    by_cases hl : (Txt.slice x (some (iF : Int)) (some (j : Int))).length = 0
    · rw [if_pos hl] at h
      rcases csF with _ | ⟨l, _ | ⟨l2, r⟩⟩
      · cases h
      · dsimp only at h
        cases hm : mergeF [l ++ Str.ofString "-"] with
        | none => rw [hm] at h; cases h
        | some cs3 => rw [hm] at h; exact ⟨iF, _, _, cs3, rfl, fun q => absurd hl q, fun _ => ⟨l, rfl, rfl⟩, hm, (Option.some.inj h).symm⟩
      · cases h
    · rw [if_neg hl] at h
      dsimp only at h
      cases hm : mergeF (csF ++ [Txt.slice x (some (iF : Int)) (some (j : Int))]) with
      | none => rw [hm] at h; cases h
      | some cs3 => rw [hm] at h; exact ⟨iF, csF, _, cs3, rfl, fun _ => rfl, fun q => absurd q hl, hm, (Option.some.inj h).symm⟩
theorem kF_yes {x : Str} {i : Nat} (h : (Txt.item x ((i : Int) + 1) == Str.ofString "!") = true) : i + 1 + 2 = if isAt x (i + 1) "!" then i + 1 + 2 else i + 1 + 1 := by
  have e : isAt x (i + 1) "!" = true := h
  rw [e, if_pos rfl]
theorem kF_no {x : Str} {i : Nat} (h : (Txt.item x ((i : Int) + 1) == Str.ofString "!") = false) : i + 1 + 1 = if isAt x (i + 1) "!" then i + 1 + 2 else i + 1 + 1 := by
  have e : isAt x (i + 1) "!" = false := h
  rw [e, if_neg Bool.false_ne_true]
theorem merge_of {cs cs3 : List Str} (h : mergeF cs = some cs3) : (∃ a, cs = [a] ∧ cs3 = [a]) ∨
    (∃ a b, cs = [a, b] ∧ a.length ≠ 0 ∧ b.length ≠ 0 ∧ cs3 = if fallS a b then [Txt.slice a none (some (-1)) ++ Txt.slice b (some 1) none] else [a, b]) ∨
    (∃ a b c, cs = [a, b, c] ∧ a.length ≠ 0 ∧ b.length ≠ 0 ∧ c.length ≠ 0 ∧ fallS b c = true ∧ (Txt.slice b none (some (-1)) ++ Txt.slice c (some 1) none).length ≠ 0 ∧ fallS a (Txt.slice b none (some (-1)) ++ Txt.slice c (some 1) none) = false ∧ cs3 = [a, Txt.slice b none (some (-1)) ++ Txt.slice c (some 1) none]) := by
  rcases cs with _ | ⟨a, _ | ⟨b, _ | ⟨c, _ | ⟨d, r⟩⟩⟩⟩
  · cases h
  · exact .inl ⟨a, rfl, (Option.some.inj h).symm⟩
  · simp only [mergeF] at h
    split at h
    · cases h
    · rename_i q
      exact .inr (.inl ⟨a, b, rfl, fun e => q (.inl e), fun e => q (.inr e), (Option.some.inj h).symm⟩)
  · simp only [mergeF] at h
    split at h
    · cases h
    · rename_i q
      exact .inr (.inr ⟨a, b, c, rfl, fun e => q (.inl e), fun e => q (.inr (.inl e)), fun e => q (.inr (.inr (.inl e))), by simpa using fun e => q (.inr (.inr (.inr (.inl e)))), fun e => q (.inr (.inr (.inr (.inr (.inl e))))), by simpa using fun e => q (.inr (.inr (.inr (.inr (.inr e))))), (Option.some.inj h).symm⟩)
  · cases h
theorem fall_y {a b : Str} (h : fallS a b = true) : (Txt.item b 0).cps.toList < (Txt.item a (-1)).cps.toList := of_decide_eq_true h
theorem fall_n {a b : Str} (h : fallS a b = false) : ¬ (Txt.item b 0).cps.toList < (Txt.item a (-1)).cps.toList := of_decide_eq_false h
theorem y_fall {a b : Str} (h : (Txt.item b 0).cps.toList < (Txt.item a (-1)).cps.toList) : fallS a b = true := decide_eq_true h
theorem n_fall {a b : Str} (h : ¬ (Txt.item b 0).cps.toList < (Txt.item a (-1)).cps.toList) : fallS a b = false := decide_eq_false h
theorem unr_end {h₀ : Heap} {L I : Addr} {it : Obj} {rest : (Str → Option Value) → List (Addr × Obj) → Prop} {s₁ : Shared} {h' : Heap} {tk : Nat} {m' : Str → Option Value} {news' : List (Addr × Obj)} (F : Fr h₀ L h' m') (N : News h₀ L h' ((I, it) :: news'))
    (off : ∀ p ∈ news', p.1 ≠ I) (r : rest m' news') : UnrEnd h₀ L s₁ I it rest { s₁ with heap := h', toks := tk } := ⟨h', tk, m', news', rfl, F, N, off, r⟩
theorem unr_off {C a D B I : Addr} {o1 o2 o3 o4 : Obj} {l : List (Addr × Obj)} (h : C < I ∧ a < I ∧ D < I ∧ B < I ∧ AllLt I l) : ∀ p ∈ (C, o1) :: (a, o2) :: (D, o3) :: (B, o4) :: l, p.1 ≠ I := by
  intro p hp
  simp only [List.mem_cons] at hp
  rcases hp with rfl | rfl | rfl | rfl | hp
  · exact Nat.ne_of_lt h.1
  · exact Nat.ne_of_lt h.2.1
  · exact Nat.ne_of_lt h.2.2.1
  · exact Nat.ne_of_lt h.2.2.2.1
  · exact allLt_ne h.2.2.2.2 p hp
theorem meetN {o : OsState} {nm : Str} {h₀ : Heap} {L : Addr} {Led : Nat × Tok → List (Addr × Obj)} {stored : List Str} {m₀ m' : Str → Option Value} {P : Nat × Tok → Prop} {s₂ : Shared} {nw : List (Addr × Obj)} {jv : Int} {t : Tok} (j : Nat) (F : Fr h₀ L s₂.heap m') (N : News h₀ L s₂.heap nw)
    (hn : ∀ p ∈ Led (j, t), p ∈ nw) (hk : m' nm = some (.int jv t)) (hv : jv = (j : Int)) (hr : ∀ z, z ≠ nm → m' z = m₀ z) (hp : P (j, t))
    (hB : Bare o s₂ := by first | assumption | exact And.right (by assumption)) :
    MeetAt o h₀ L Led (fun c => [(nm, .int (c.1 : Int) c.2)]) stored m₀ P s₂ := by
  subst hv
  exact meet (j, t) F N hn (List.forall_mem_cons.mpr ⟨hk, fun _ h => nomatch h⟩) (fun z hz _ => hr z (hz _ (.head _))) hp
structure ChS where
  i : Nat
  ti : Tok
  k : Nat
  tk : Tok
  vs : List Value
  cs : List Str
  n : Nat
  fuel : Nat
theorem meetC {o : OsState} {h₀ : Heap} {L : Addr} {Led : ChS → List (Addr × Obj)} {stored : List Str} {m₀ m' : Str → Option Value} {P : ChS → Prop} {s₂ : Shared} {nw : List (Addr × Obj)} {iv kv : Int} {ti tk : Tok} (i k : Nat) (vs : List Value) (cs : List Str) (n fuel : Nat) (F : Fr h₀ L s₂.heap m') (N : News h₀ L s₂.heap nw)
    (hn : ∀ p ∈ Led ⟨i, ti, k, tk, vs, cs, n, fuel⟩, p ∈ nw) (hi : m' (Str.ofString "i") = some (.int iv ti)) (hiv : iv = (i : Int)) (hk : m' (Str.ofString "k") = some (.int kv tk)) (hkv : kv = (k : Int))
    (hr : ∀ z, z ≠ Str.ofString "i" → z ≠ Str.ofString "k" → m' z = m₀ z) (hp : P ⟨i, ti, k, tk, vs, cs, n, fuel⟩)
    (hB : Bare o s₂ := by first | assumption | exact And.right (by assumption)) :
    MeetAt o h₀ L Led (fun c => [(Str.ofString "i", .int (c.i : Int) c.ti), (Str.ofString "k", .int (c.k : Int) c.tk)]) stored m₀ P s₂ := by
  subst hiv hkv
  exact meet (⟨i, ti, k, tk, vs, cs, n, fuel⟩ : ChS) F N hn (List.forall_mem_cons.mpr ⟨hi, List.forall_mem_cons.mpr ⟨hk, fun _ h => nomatch h⟩⟩) (fun z hz _ => hr z (hz _ (.head _)) (hz _ (.tail _ (.head _)))) hp
/-- the loop's end: k is whatever it is -/
theorem meetC2 {o : OsState} {h₀ : Heap} {L : Addr} {Led : ChS → List (Addr × Obj)} {m₀ m' : Str → Option Value} {P : ChS → Prop} {s₂ : Shared} {nw : List (Addr × Obj)} {iv : Int} {ti : Tok} (i : Nat) (vs : List Value) (cs : List Str) (n : Nat) (F : Fr h₀ L s₂.heap m') (N : News h₀ L s₂.heap nw)
    (hn : ∀ p ∈ Led ⟨i, ti, 0, 0, vs, cs, n, 0⟩, p ∈ nw) (hi : m' (Str.ofString "i") = some (.int iv ti)) (hiv : iv = (i : Int))
    (hr : ∀ z, z ≠ Str.ofString "i" → z ≠ Str.ofString "k" → m' z = m₀ z) (hp : P ⟨i, ti, 0, 0, vs, cs, n, 0⟩)
    (hB : Bare o s₂ := by first | assumption | exact And.right (by assumption)) :
    MeetAt o h₀ L Led (fun c => [(Str.ofString "i", .int (c.i : Int) c.ti)]) [Str.ofString "k"] m₀ P s₂ := by
  subst hiv
  refine meet (⟨i, ti, 0, 0, vs, cs, n, 0⟩ : ChS) F N hn (List.forall_mem_cons.mpr ⟨hi, fun _ h => nomatch h⟩) (fun z hz hc => hr z (hz _ (.head _)) ?_) hp
  intro e; subst e; simp at hc
structure CkS where
  vs : List Value
  n : Nat
/-- the chunks as they are when the last is booked -/
theorem meetK2 {o : OsState} {h₀ : Heap} {L : Addr} {Led : CkS → List (Addr × Obj)} {stored : List Str} {m₀ m' : Str → Option Value} {P : CkS → Prop} {s₂ : Shared} {nw : List (Addr × Obj)} (vs : List Value) (n : Nat) (F : Fr h₀ L s₂.heap m') (N : News h₀ L s₂.heap nw)
    (hn : ∀ p ∈ Led ⟨vs, n⟩, p ∈ nw) (hr : ∀ z, stored.contains z = false → m' z = m₀ z) (hp : P ⟨vs, n⟩)
    (hB : Bare o s₂ := by first | assumption | exact And.right (by assumption)) :
    MeetAt o h₀ L Led (fun _ => []) stored m₀ P s₂ :=
  meet (⟨vs, n⟩ : CkS) F N hn (fun _ h => nomatch h) (fun z _ h => hr z h) hp

theorem strs_1 {vs : List Value} {a : Str} (h : StrsAre vs [a]) : ∃ t, vs = [.str a t] := by
  cases h with | cons y t h => cases h; exact ⟨t, rfl⟩
theorem strs_2 {vs : List Value} {a b : Str} (h : StrsAre vs [a, b]) : ∃ t u, vs = [.str a t, .str b u] := by
  cases h with | cons y t h => obtain ⟨u, rfl⟩ := strs_1 h; exact ⟨t, u, rfl⟩
theorem strs_3 {vs : List Value} {a b c : Str} (h : StrsAre vs [a, b, c]) : ∃ t u v, vs = [.str a t, .str b u, .str c v] := by
  cases h with | cons y t h => obtain ⟨u, v, rfl⟩ := strs_2 h; exact ⟨t, u, v, rfl⟩

theorem ine_f {x y : Int} {P Q : Prop} (h : x = y) (hq : Q) : if (x != y) = true then P else Q := by subst h; simpa using hq
theorem ine_t {x y : Int} {P Q : Prop} (h : x ≠ y) (hp : P) : if (x != y) = true then P else Q := by simp [h, hp]

theorem whl_next {σ : Type} {o : OsState} {h₀ : Heap} {L : Addr} {Led : σ → List (Addr × Obj)} {ps : σ → List (Str × Value)} {stored : List Str} {m₀ : Str → Option Value} {P : σ → Prop} {μ : σ → Nat} {Q : Flow → Shared → Prop} {k : Nat} {s₂ : Shared}
    (h : MeetAt o h₀ L Led ps stored m₀ (fun c => P c ∧ μ c < k) s₂) : WhlG o h₀ L Led ps stored m₀ P μ Q k .next s₂ := h

/-- stands in the context where a stop is to be passed by -/
noncomputable def GoOn : Prop := True
theorem goOn : GoOn := trivial
end

section
open PySem PySem.W PyProof.Rows PySem.Calls PySem.Builtin PySem.Builtin.Str
theorem len_replace (x y z : Str) : (Txt.replace x y z).length ≤ x.length + (x.length + 1) * z.length := by
  unfold Txt.replace
  split
  · exact Nat.le_add_right _ _
  · have h1 := StrLaws.occ_length_le x y 0 x.length (x.length + 1)
    have hy : (glued y (partsBetween x (occurrences x y 0 x.length (x.length + 1)) y.length)).length = x.length := by rw [StrLaws.glued_between_self]
    rw [size_glued, length_partsBetween, Nat.add_sub_cancel] at hy
    rw [size_glued, length_partsBetween, Nat.add_sub_cancel]
    have h2 : (occurrences x y 0 x.length (x.length + 1)).length * z.length ≤ (x.length + 1) * z.length := Nat.mul_le_mul_right _ h1
    lia
theorem len_repB (x : Str) : (repB x).length ≤ 3 * x.length + 2 := by
  have h := len_replace x (Str.ofString "\\") (Str.ofString "\\\\")
  have e : (Str.ofString "\\\\").length = 2 := rfl
  rw [e] at h
  unfold repB
  lia
theorem len_rep2 (x : Str) : (rep2 x).length ≤ 3 * (3 * x.length + 2) + 2 := by
  have h := len_replace (repB x) (Str.ofString "-") (Str.ofString "\\-")
  have e : (Str.ofString "\\-").length = 2 := rfl
  have h2 := len_repB x
  rw [e] at h
  unfold rep2
  lia
section
variable {prog : Program} {w : World} {A : Around} {E : Value → Shared → Prop} {s : Shared} {x y z : Str} {t u v : Tok} {Q : Value → Shared → Prop}
theorem replP (h0 : 0 < u) (huv : u < v) (hs : v < s.toks) (hyz : (y == z) = false) (hx : x.length ≤ 1048576) (hz : z.length ≤ 14) (hq : ∀ t' k, 0 < k → Q (.str (Txt.replace x y z) t') { s with toks := k }) :
    wpAny (model prog w) A (call (.builtin "str.replace") [.str x t, .str y u, .str z v]) Q E s := by
  refine wpAny_with_toks (n := 1) (Nat.lt_of_le_of_lt (Nat.zero_le _) hs) (SC.replaceW (Nat.ne_of_gt h0) (Nat.ne_of_gt (Nat.lt_trans h0 huv)) (Nat.ne_of_lt huv) hyz hx hz fun t' k hk => hq t' k hk)
end
theorem updF_2 {d C : Addr} {o oC : Obj} {l : List (Addr × Obj)} (h1 : C ≠ d) (h : ∀ q ∈ l, q.1 ≠ d) : UpdF d o ((C, oC) :: (d, o) :: l) (fun o' => (C, oC) :: (d, o') :: l) := .tail h1 (.head h)
theorem merge_len {cs cs3 : List Str} (h : mergeF cs = some cs3) (hb : ∀ y ∈ cs, y.length ≤ 100001) : cs3.length ≤ 3 ∧ ∀ y ∈ cs3, y.length ≤ 300010 := by
  have sl : ∀ (a b : Str), (Txt.slice a none (some (-1)) ++ Txt.slice b (some 1) none).length ≤ a.length + b.length := fun a b => by
    rw [strLen_append]
    have := Txt.slice_le a none (some (-1))
    have := Txt.slice_le b (some 1) none
    lia
  rcases merge_of h with ⟨a, rfl, rfl⟩ | ⟨a, b, rfl, _, _, rfl⟩ | ⟨a, b, c, rfl, _, _, _, _, _, _, rfl⟩
  · have := hb a (.head _)
    simp; lia
  · have := hb a (.head _)
    have := hb b (.tail _ (.head _))
    have := sl a b
    split <;> simp <;> lia
  · have := hb a (.head _)
    have := hb b (.tail _ (.head _))
    have := hb c (.tail _ (.tail _ (.head _)))
    have := sl b c
    simp; lia
theorem join_ok {cs3 : List Str} (h : cs3.length ≤ 3 ∧ ∀ y ∈ cs3, y.length ≤ 300010) : JoinOk (Str.ofString "-") (cs3.map rep2) = true := by
  unfold JoinOk
  rw [StrLaws.joinFits (B := 3000000)]
  · rfl
  · intro y hy
    obtain ⟨z, hz, rfl⟩ := List.mem_map.mp hy
    have := len_rep2 z
    have := h.2 z hz
    lia
  · have e : (Str.ofString "-").length = 1 := rfl
    rw [List.length_map, e]
    have := h.1
    lia
end

section
open PySem PySem.W PyProof.Rows PySem.Calls PySem.Builtin PySem.Builtin.Str
noncomputable abbrev eltX : Expr := .Call (.Attribute (.Call (.Attribute (.Name (Str.ofString "s") ⟨60, 38, 60, 39⟩) (Str.ofString "replace") ⟨60, 38, 60, 47⟩) [.Constant (.str (Str.ofString "\\")) 0 ⟨60, 48, 60, 52⟩, .Constant (.str (Str.ofString "\\\\")) 0 ⟨60, 54, 60, 60⟩] [] ⟨60, 38, 60, 61⟩) (Str.ofString "replace") ⟨60, 38, 60, 69⟩)
  [.Constant (.str (Str.ofString "-")) 0 ⟨60, 70, 60, 73⟩, .Constant (.str (Str.ofString "\\-")) 0 ⟨60, 75, 60, 80⟩] [] ⟨60, 38, 60, 81⟩
noncomputable abbrev eltSc : Scope := { kind := .function, names := [(Str.ofString ".0", .local), (Str.ofString "s", .local)], isGenerator := true, isCoroutine := false }
theorem mw_T22_0 : True := by
  k_with_none
  trivial
theorem mw_T22_1 : True := by
  (k_with "call builtin:str.replace" => ((refine' replP ?k1 ?k2 ?k3 ?k4 ?k5 ?k6 ?_; (case k1 => (first | assumption | exact Nat.succ_pos _)); (case k2 => exact Nat.lt_succ_self _); (case k3 => exact Nat.lt_succ_self _); (case k4 => decide +kernel); (case k5 => (first | omega)); (case k6 => decide +kernel); k_whole); intro _ _ _))
  trivial
theorem elt_does {prog : Program} {w : World} {C : Addr} {code : Value} {b : Addr} {env : Env} {A' : Around} {E' : Value → Shared → Prop} {y : Str} {t : Tok} {s₂ : Shared} {m₂ : Str → Option Value} (hlen : y.length ≤ 300010)
    (h0 : 0 < s₂.toks) (hn : s₂.heap.Ns (genEnv eltSc [] C code b env).locals m₂) (hm : m₂ (Str.ofString "s") = some (.str y t)) :
    wpAny (model prog w) A' (eval eltX (genEnv eltSc [] C code b env)) (fun v s₃ => (∃ u, v = .str (rep2 y) u) ∧ Keeps s₂ s₃) E' s₂ := by
  have hl2 := len_repB y
  unfold repB at hl2
  obtain ⟨h, g, d, tk, os⟩ := s₂
  dsimp only at h0 hn
  refine MethodCall_ ?_
  refine MethodCall_ ?_
  refine ldG hn hm ?_ rfl rfl (by decide +kernel)
  repeat walk1
  exact ⟨h, _, rfl, fun _ _ e => e⟩
end

section
open PySem PySem.W PyProof.Rows PySem.Calls PySem.Builtin PySem.Builtin.Str
section
variable {prog : Program} {w : World} {A : Around} {E : Value → Shared → Prop} {s : Shared} {h₀ : Heap} {L D : Addr} {m : Str → Option Value} {nw : List (Addr × Obj)} {vs : List Value} {n : Nat}
theorem item_vals {value slice : Expr} {iv : Int} {u : Tok} {v : Value} {Q : Value → Shared → Prop} (i : Nat) (N : News h₀ L s.heap nw) (hm : (D, listOf vs.toArray n) ∈ nw) (hi : iv = (i : Int)) (hsm : i ≤ 1000000) (hv : vs[i]? = some v)
    (h : Q v s) (hs : subscripted slice false (.ref D) (.int iv u) = operate [.ref D, .int iv u] (getItem (.ref D) (.int iv u)) := by with_unfolding_all rfl) :
    wpAny (model prog w) A (subscriptTail value slice (.ref D) (.int iv u)) Q E s := by
  have hl := lst_at N hm
  refine tail_any hl.typeIs slot_list_getitem.lookup (wpAny_getItem_list hl (by lia) (by lia) ?_ h) hs
  subst hi
  simpa using hv
end
end

section
open PySem PySem.W PyProof.Rows PySem.Calls PySem.Builtin PySem.Builtin.Str
theorem eqGives_none_str (x : Str) (t : Tok) : MeetsSeq.EqGives .none (.str x t) false := by
  intro prog w A E s Q h
  unfold eqBool
  refine wpAny_holding (wpAny_ite_split (fun hab => absurd (show (false : Bool) = true from hab) (by decide)) (fun _ => ?_))
  exact wpAny_bind (PySem.EqNone.eq_none_str (wpAny_truthy_bool h))
theorem eqGives_none_none : MeetsSeq.EqGives .none .none true := by
  intro prog w A E s Q h
  unfold eqBool
  refine wpAny_holding (wpAny_ite_split (fun _ => wpAny_bind (wpAny_rule (wpAny_pure h))) (fun hab => absurd (show (true : Bool) = true from rfl) hab))
theorem eqGives_str_none (z : Str) (u : Tok) : MeetsSeq.EqGives (.str z u) .none false := by
  intro prog w A E s Q h
  unfold eqBool
  refine wpAny_holding (wpAny_ite_split (fun hab => absurd (show (false : Bool) = true from hab) (by decide)) (fun _ => ?_))
  exact wpAny_bind (PySem.EqNone.eq_str_none (wpAny_truthy_bool h))
section
variable {prog : Program} {w : World} {A : Around} {E : Value → Shared → Prop} {s : Shared} {h₀ : Heap} {L D : Addr} {m : Str → Option Value} {nw : List (Addr × Obj)} {vs : List Value} {ys : List Str} {n : Nat} {x : Str} {t : Tok} {Q : Value → Shared → Prop}
/-- a text in a list of None and texts -/
theorem in_none_strs (N : News h₀ L s.heap nw) (hm : (D, listOf (Value.none :: vs).toArray n) ∈ nw) (hi : StrsAre vs ys) (h : Q (.bool (ys.any (· == x))) s) : wpAny (model prog w) A (compareOp .In (.str x t) (.ref D)) Q E s := by
  refine SeqInW.in_listW (isStrOf x) (fun y hy => ?_) (lst_at N hm) ?_
  · rcases List.mem_cons.mp (by simpa using hy : y ∈ Value.none :: vs) with rfl | hy
    · exact eqGives_none_str x t
    · exact eq_isStrOf x t hi y hy
  · rw [← Array.any_toList, show (Value.none :: vs).toArray.toList = Value.none :: vs from rfl, List.any_cons, any_isStrOf x hi]
    exact h
noncomputable def isNoneV : Value → Bool
  | .none => true
  | _ => false
theorem in_none_list {v : List Value} (N : News h₀ L s.heap nw) (hm : (D, listOf (Value.none :: v).toArray n) ∈ nw) (hv : ∀ y ∈ v, ∃ z u, y = .str z u) (h : Q (.bool true) s) : wpAny (model prog w) A (compareOp .In .none (.ref D)) Q E s := by
  refine SeqInW.in_listW isNoneV (fun y hy => ?_) (lst_at N hm) ?_
  · rcases List.mem_cons.mp (by simpa using hy : y ∈ Value.none :: v) with rfl | hy
    · exact eqGives_none_none
    · obtain ⟨z, u, rfl⟩ := hv y hy
      show MeetsSeq.EqGives _ _ false
      intro prog w A E s Q h
      unfold eqBool
      refine wpAny_holding (wpAny_ite_split (fun hab => absurd (show (false : Bool) = true from hab) (by decide)) (fun _ => ?_))
      exact wpAny_bind (PySem.EqNone.eq_str_none (wpAny_truthy_bool h))
  · rw [← Array.any_toList, show (Value.none :: v).toArray.toList = Value.none :: v from rfl, List.any_cons]
    exact h
/-- a text in a list of texts of the ledger -/
theorem in_strs (N : News h₀ L s.heap nw) (hm : (D, listOf vs.toArray n) ∈ nw) (hi : StrsAre vs ys) (h : Q (.bool (ys.any (· == x))) s) : wpAny (model prog w) A (compareOp .In (.str x t) (.ref D)) Q E s :=
  in_list_strs (lst_at N hm) hi h
end
/-- the marks of an item -/
noncomputable def marksF (x : Str) : Nat → Nat → List Str → Option (List Str)
  | 0, _, _ => none
  | f + 1, k, acc => if k < x.length then
      if isAt x k "\\" then (if (Txt.slice x (some (k : Int)) (some ((k : Int) + 2))).length = 0 then none else marksF x f (k + (Txt.slice x (some (k : Int)) (some ((k : Int) + 2))).length) (acc ++ [Txt.slice x (some (k : Int)) (some ((k : Int) + 2))]))
      else marksF x f (k + 1) (acc ++ [itm x k])
    else some acc
/-- the sign of a text item, where it has one of the forms met here -/
noncomputable def sign1 : List Str → Option Str
  | [a] => if a == Str.ofString "\\" || Txt.contains (Str.ofString "*[^$+|(){}~-]") a || a.length = 0 then none else some (Txt.item a (-1))
  | [a, b, c] => if a == Str.ofString "[" && c == Str.ofString "]" && !(b == Str.ofString "\\") && !(Txt.contains (Str.ofString "^[-~") b) && b.length ≠ 0 then some (Txt.item b (-1)) else none
  | [a, b, c, d] => if a == Str.ofString "[" && d == Str.ofString "]" && !(b == Str.ofString "\\") && !(c == Str.ofString "\\") then
      (if b == Str.ofString "a" && c == Str.ofString "\\-" then some (Str.ofString "P") else if b == Str.ofString "^" && !(Txt.contains (Str.ofString "-~") c) && c.length ≠ 0 then some (Str.ofString "N" ++ Txt.item c (-1)) else none) else none
  | [a, b, c, d, e] => if a == Str.ofString "[" && e == Str.ofString "]" && !(b == Str.ofString "\\") && !(c == Str.ofString "\\") && !(d == Str.ofString "\\") && c == Str.ofString "-" && b.length ≠ 0 && d.length ≠ 0 && (Txt.item b (-1) == Txt.item d (-1)) && !(Txt.contains (Str.ofString "^[-~") b) then some (Txt.item b (-1)) else none
  | _ => none
noncomputable def signT (x : Str) : Option Str :=
  if 1000 < x.length then none else if x == Str.ofString "?" then some (Str.ofString "Q") else if x == Str.ofString "." then some (Str.ofString "A") else if x == Str.ofString "(?!)" then some (Str.ofString "0")
  else match marksF x (x.length + 1) 0 [] with
    | none => none
    | some l => sign1 l
noncomputable def signF : Option Str → Option Str
  | none => some (Str.ofString "S")
  | some x => signT x
theorem marks_end {x : Str} {f k : Nat} {acc l : List Str} (h : marksF x (f + 1) k acc = some l) (hk : ¬ k < x.length) : l = acc := by
  unfold marksF at h
  rw [if_neg hk] at h
  exact (Option.some.inj h).symm
theorem marks_chr {x : Str} {f k : Nat} {acc l : List Str} (h : marksF x (f + 1) k acc = some l) (hk : k < x.length) (hb : (Txt.item x (k : Int) == Str.ofString "\\") = false) : marksF x f (k + 1) (acc ++ [Txt.item x (k : Int)]) = some l := by
  unfold marksF at h
  have e : isAt x k "\\" = false := hb
  rw [if_pos hk, e, if_neg Bool.false_ne_true] at h
  exact h
theorem marks_esc {x : Str} {f k : Nat} {acc l : List Str} (h : marksF x (f + 1) k acc = some l) (hk : k < x.length) (hb : (Txt.item x (k : Int) == Str.ofString "\\") = true) :
    (Txt.slice x (some (k : Int)) (some ((k : Int) + 2))).length ≠ 0 ∧ marksF x f (k + (Txt.slice x (some (k : Int)) (some ((k : Int) + 2))).length) (acc ++ [Txt.slice x (some (k : Int)) (some ((k : Int) + 2))]) = some l := by
  unfold marksF at h
  have e : isAt x k "\\" = true := hb
  rw [if_pos hk, e, if_pos rfl] at h
  split at h
  · cases h
  · rename_i q; exact ⟨q, h⟩
structure SgS where
  k : Nat
  tk : Tok
  D : Addr
  vs : List Value
  acc : List Str
  n : Nat
  fuel : Nat
end

section
open PySem PySem.W PyProof.Rows PySem.Calls PySem.Builtin PySem.Builtin.Str
/-! dicts whose keys are texts or None -/
section
variable {prog : Program} {w : World} {A : Around} {E : Value → Shared → Prop} {s : Shared}
theorem pyHash_none {Q : Int → Shared → Prop} (h : Q 4238894112 { s with toks := s.toks + 1 }) : wpAny (model prog w) A (pyHash .none) Q E s := by
  have hT : s.TypeIs Value.none "NoneType" := rfl
  unfold pyHash
  have hv : [Value.none].any Value.onHeap = false := rfl
  refine wpAny_bind ?_
  rw [cRoomFor, if_neg (by rw [hv]; exact Bool.false_ne_true)]; refine wpAny_pure ?_
  refine wpAny_bind (wpAny_specialOf hT PySem.F.slot_NoneType_hash.lookup ?_)
  show wpAny _ _ (if (some (Value.builtin "NoneType.__hash__") == some Value.none) = true then _ else _) Q E s
  rw [if_neg (by rw [beq_builtin_none]; exact Bool.false_ne_true)]
  refine wpAny_bind (wpAny_specialOf hT PySem.F.slot_NoneType_hash.lookup ?_)
  show wpAny _ _ (callSpecialIfBoundUnlessNone? .none "__hash__" _ >>= _) Q E s
  refine wpAny_bind (wpAny_callSpecialIfBoundUnlessNone?_slot hT PySem.F.slot_NoneType_hash
    (wpAny_call_entry PySem.F.slot_NoneType_hash hT PySem.F.entry_NoneType_hash
      (show wpAny _ _ (do ret (← mkInt 0xFCA86420)) _ _ s from wpAny_ret_mkInt ?_) (PySem.F.args_NoneType_hash_1 _)))
  exact wpAny_pure h
end
noncomputable def osIs : Option Str → Value → Bool
  | none, .none => true
  | some x, .str y _ => y == x
  | _, _ => false
theorem osIs_none {v : Value} (h : osIs none v = true) : v = .none := by cases v <;> simp_all [osIs]
theorem osIs_some {x : Str} {v : Value} (h : osIs (some x) v = true) : ∃ t, v = .str x t := by cases v <;> simp_all [osIs]
noncomputable def osKind (prog : Program) (w : World) : KeyKind prog w (Option Str) where
  is := osIs
  hash := fun k => match k with | none => 4238894112 | some x => hashStr w x
  inj := fun v a b ha hb => by
    cases a with
    | none => cases osIs_none ha; cases b with
      | none => rfl
      | some y => obtain ⟨t, h⟩ := osIs_some hb; cases h
    | some x => obtain ⟨t, rfl⟩ := osIs_some ha; cases b with
      | none => cases osIs_none hb
      | some y => obtain ⟨u, h⟩ := osIs_some hb; injection h with h1; rw [h1]
  byValue := fun k v h => by
    cases k with
    | none => cases osIs_none h; rfl
    | some x => obtain ⟨t, rfl⟩ := osIs_some h; rfl
  pyHash := fun {A E s k v Q} hv h => by
    cases k with
    | none => cases osIs_none hv; exact pyHash_none h
    | some x => obtain ⟨t, rfl⟩ := osIs_some hv; exact wpAny_pyHash_str h
  eqBool := fun {A E s a b u v Q} hu hv h => by
    cases a with
    | none =>
      cases osIs_none hu
      cases b with
      | none => cases osIs_none hv; exact eqGives_none_none _ _ _ _ _ _ (by simpa using h)
      | some y => obtain ⟨t, rfl⟩ := osIs_some hv; exact eqGives_none_str _ _ _ _ _ _ _ _ (by simpa using h)
    | some x =>
      obtain ⟨t, rfl⟩ := osIs_some hu
      cases b with
      | none => cases osIs_none hv; exact eqGives_str_none _ _ _ _ _ _ _ _ (by simpa using h)
      | some y => obtain ⟨u, rfl⟩ := osIs_some hv; exact wpAny_eqBool_str (by simpa using h)
  «strs» := fun k x t v h => by
    cases k with
    | none => cases osIs_none h
    | some y =>
      obtain ⟨u, hu⟩ := osIs_some h
      injection hu with hx
      subst hx
      cases v <;> rfl
section
variable {prog : Program} {w : World} {A : Around} {E : Value → Shared → Prop} {s : Shared} {h₀ : Heap} {L d : Addr} {nw : List (Addr × Obj)} {o : Obj} {kvs : List (Str × Value)}
theorem get_none_str {dflt : Value} {Q : Value → Shared → Prop} (N : News h₀ L s.heap nw) (hm : (d, o) ∈ nw) (lo : (d == sysModules) = false) (hd : o.IsDictOf (PySem.strKind prog w) kvs) (h : Q dflt { s with toks := s.toks + 1 }) :
    wpAny (model prog w) A (call (.builtin "dict.get") [.ref d, .none, dflt]) Q E s := by
  obtain ⟨es, ep, hx, hdt, hk, hp, hn⟩ := hd
  have hM : s.heap.MapOf (osKind prog w) d (fun k => findBy osIs es k) := ⟨o, es, ep, N.get hm, hx, hdt, fun e he => by
    obtain ⟨k, h1, h2⟩ := hk e he
    obtain ⟨t, h3⟩ := Value.isStrOf_shape h1
    exact ⟨some k, by rw [h3]; exact beq_self_eq_true k, h2⟩, fun _ => rfl⟩
  have hf : findBy osIs es none = none := by
    unfold findBy
    rw [Array.find?_eq_none.mpr]
    · rfl
    · intro e he
      obtain ⟨k, h1, h2⟩ := hk e he
      obtain ⟨t, h3⟩ := Value.isStrOf_shape h1
      rw [h3]; exact Bool.false_ne_true
  exact call_meetsIn PySem.F.slot_dict_get hM.typeIs PySem.F.entry_dict_get (PySem.F.args_dict_get_3 _ _ _) (meets_dict_get_default (osKind prog w) (k := none) d rfl lo dflt) ⟨_, hM, by rw [hf]; exact h⟩
end

theorem sg_end {h₀ : Heap} {L : Addr} {s : Shared} {Led : SgS → List (Addr × Obj)} {Facts : SgS → Prop} {m₀ m' : Str → Option Value} {P : SgS → Prop} {μ : SgS → Nat} {c : SgS} {h' : Heap} {tk : Nat} {news' : List (Addr × Obj)} {kv : Int} {tk9 : Tok} (k : Nat) (D : Addr) (vs : List Value) (acc : List Str) (n fuel : Nat)
    (F : Fr h₀ L h' m') (N : News h₀ L h' news') (hn : ∀ p ∈ Led ⟨k, tk9, D, vs, acc, n, fuel⟩, p ∈ news') (hf : Facts ⟨k, tk9, D, vs, acc, n, fuel⟩) (hk : m' (Str.ofString "k") = some (.int kv tk9)) (hkv : kv = (k : Int))
    (hr : ∀ z, z ≠ Str.ofString "k" → m' z = m₀ z) (hp : P ⟨k, tk9, D, vs, acc, n, fuel⟩) (hm : μ ⟨k, tk9, D, vs, acc, n, fuel⟩ < μ c) :
    KswEnd h₀ L s Led (fun c => [(Str.ofString "k", .int (c.k : Int) c.tk)]) Facts [] m₀ P μ c { s with heap := h', toks := tk } := by
  subst hkv
  exact ksw_end ⟨k, tk9, D, vs, acc, n, fuel⟩ F N hn hf (List.forall_mem_cons.mpr ⟨hk, fun _ h => nomatch h⟩) (fun z hz _ => hr z (hz _ (.head _))) hp hm
end

section
open PySem PySem.W PyProof.Rows PySem.Calls PySem.Builtin PySem.Builtin.Str
theorem strs_get {vs : List Value} {ys : List Str} (h : StrsAre vs ys) : ∀ j (h1 : j < vs.length), ∃ t, vs[j] = .str (ys.getD j Str.empty) t := by
  induction h with
  | nil => intro j h1; cases h1
  | cons y t r ih =>
    intro j h1
    cases j with
    | zero => exact ⟨t, rfl⟩
    | succ j => exact ih j (by simpa using h1)
theorem all_eq : ∀ (ys zs : List Str), ys.length = zs.length → (List.range ys.length).all (fun j => ys.getD j Str.empty == zs.getD j Str.empty) = (ys == zs)
  | [], [], _ => rfl
  | y :: ys, z :: zs, h => by
    have ih := all_eq ys zs (by simpa using h)
    rw [List.length_cons, List.range_succ_eq_map, List.all_cons, List.all_map]
    show (y == z && _) = (y == z && ys == zs)
    rw [← ih]
    rfl
section
variable {prog : Program} {w : World} {A : Around} {E : Value → Shared → Prop} {s : Shared} {h₀ : Heap} {L a b : Addr} {nw : List (Addr × Obj)} {vs us : List Value} {ys zs : List Str} {n k : Nat} {Q : Value → Shared → Prop}
theorem eq_strs (N : News h₀ L s.heap nw) (ha : (a, listOf vs.toArray n) ∈ nw) (hi : StrsAre vs ys) (hb : (b, listOf us.toArray k) ∈ nw) (hi' : StrsAre us zs) (hu : A.units < cLine)
    (h : Q (.bool (ys == zs)) s) : wpAny (model prog w) A (compareOp .Eq (.ref a) (.ref b)) Q E s := by
  have l1 := hi.len_eq
  have l2 := hi'.len_eq
  by_cases hl : vs.length = us.length
  · refine PySem.SeqAt.eq_listAt (e := fun j => ys.getD j Str.empty == zs.getD j Str.empty) (lst_at N ha) (lst_at N hb) (by simpa using hl) hu (fun j h1 h2 => ?_) ?_
    · obtain ⟨t, e1⟩ := strs_get hi j (by simpa using h1)
      obtain ⟨u, e2⟩ := strs_get hi' j (by simpa using h2)
      have e1' : vs.toArray[j] = .str (ys.getD j Str.empty) t := by simpa using e1
      have e2' : us.toArray[j] = .str (zs.getD j Str.empty) u := by simpa using e2
      rw [e1', e2']
      intro prog w E Q hq
      exact eqGives_str _ _ _ _ _ _ _ _ _ _ hq
    · rw [List.size_toArray, l1, all_eq ys zs (by lia)]
      exact h
  · refine PySem.SeqAt.eq_list_lengthsAt (lst_at N ha) (lst_at N hb) (by simpa using hl) hu ?_
    have e : (ys == zs) = false := by
      rw [beq_eq_false_iff_ne]
      intro e; subst e; lia
    rw [e] at h
    exact h
end

theorem ieq_f {x y : Int} {P Q : Prop} (h : x ≠ y) (hq : Q) : if (x == y) = true then P else Q := by simpa [h] using hq
theorem ieq_t {x y : Int} {P Q : Prop} (h : x = y) (hp : P) : if (x == y) = true then P else Q := by subst h; simpa using hp
theorem dec_f {p : Prop} [Decidable p] {P Q : Prop} (h : ¬ p) (hq : Q) : if decide p = true then P else Q := by simpa [h] using hq
theorem dec_t {p : Prop} [Decidable p] {P Q : Prop} (h : p) (hp : P) : if decide p = true then P else Q := by simpa [h] using hp
end

section
open PySem PySem.W PyProof.Rows PySem.Calls PyProof.Rows.LCg
/-! a list comprehension of any length whose element leaves the ledger as it is -/
section
variable {prog : Program} {w : World} {A : Around} {h₀ : Heap} {L : Addr} {m : Str → Option Value} {env : Env} {elt : Expr} {x : Str} {scope : Scope} {cl : List (Str × Addr)} {s : Shared} {S : List (Addr × Obj) → Prop} {P : Nat → Value → Prop} {Fin : List Value → List (Addr × Obj) → Prop} {news : List (Addr × Obj)}
theorem comp_from (R : Nat → Value → Prop) (N : Nat) (hS : S news)
    (he : ∀ i ys v I oI C oC D m₂ h tk (E' : Value → Shared → Prop), i < N → P i v → NsObj oC m₂ → m₂ x = some v → Fr h₀ L h m → News h₀ L h ((I, oI) :: (C, oC) :: (D, lst ys) :: news) → Off3 I C D news → ((@Ne Nat I C) ∧ (@Ne Nat I D) ∧ (@Ne Nat C D)) →
      wpAny (model prog w) A (eval elt (compEnvC scope cl C env)) (fun y s' => ∃ h' tk', s' = { s with heap := h', toks := tk' } ∧ R i y ∧ Fr h₀ L h' m ∧ News h₀ L h' ((I, oI) :: (C, oC) :: (D, lst ys) :: news)) E' { s with heap := h, toks := tk })
    (hfin : ∀ ys, ys.length = N → (∀ i y, ys[i]? = some y → R i y) → Fin ys news) :
    ∀ k i ys, i + k = N → ys.length = i → (∀ j y, ys[j]? = some y → R j y) → CompRest prog w A h₀ L m env elt x scope cl s S P Fin k i ys news := by
  intro k
  induction k with
  | zero => intro i ys hk hl hy; exact .zero (hfin ys (by lia) hy)
  | succ k ih =>
    intro i ys hk hl hy
    refine .succ fun v I oI C oC D m₂ h tk E' hP hC hx F N' off ne => ?_
    refine wpAny_mono (he i ys v I oI C oC D m₂ h tk E' (by lia) hP hC hx F N' off ne) (fun y s' h' => ?_) fun _ _ e => e
    obtain ⟨h₁, tk₁, rfl, hR, F₁, N₁⟩ := h'
    refine ⟨h₁, tk₁, news, rfl, F₁, N₁, off, hS, ih (i + 1) (ys ++ [y]) (by lia) (by simp [hl]) fun j z hz => ?_⟩
    rcases Nat.lt_or_ge j ys.length with hj | hj
    · rw [List.getElem?_append_left hj] at hz
      exact hy j z hz
    · rw [List.getElem?_append_right hj] at hz
      have : j = i := by
        have := (List.getElem?_eq_some_iff.mp hz).1
        simp at this; lia
      subst this
      rw [show j - ys.length = 0 by lia] at hz
      cases hz
      exact hR
theorem comp_map (R : Nat → Value → Prop) {N : Nat} (hS : S news)
    (he : ∀ i ys v I oI C oC D m₂ h tk (E' : Value → Shared → Prop), i < N → P i v → NsObj oC m₂ → m₂ x = some v → Fr h₀ L h m → News h₀ L h ((I, oI) :: (C, oC) :: (D, lst ys) :: news) → Off3 I C D news → ((@Ne Nat I C) ∧ (@Ne Nat I D) ∧ (@Ne Nat C D)) →
      wpAny (model prog w) A (eval elt (compEnvC scope cl C env)) (fun y s' => ∃ h' tk', s' = { s with heap := h', toks := tk' } ∧ R i y ∧ Fr h₀ L h' m ∧ News h₀ L h' ((I, oI) :: (C, oC) :: (D, lst ys) :: news)) E' { s with heap := h, toks := tk })
    (hfin : ∀ ys, ys.length = N → (∀ i y, ys[i]? = some y → R i y) → Fin ys news) : CompRest prog w A h₀ L m env elt x scope cl s S P Fin N 0 [] news :=
  comp_from R N hS he hfin N 0 [] (Nat.zero_add N) rfl (fun _ _ h => by simp at h)
end
/-- texts by their places -/
theorem strs_of {f : Nat → Str} : ∀ {vs : List Value} {n : Nat}, vs.length = n → (∀ i v, vs[i]? = some v → ∃ u, v = Value.str (f i) u) → StrsAre vs ((List.range n).map f)
  | [], n, h, _ => by cases h; exact .nil
  | v :: vs, n, h, hv => by
    obtain ⟨n, rfl⟩ : ∃ k, n = k + 1 := ⟨vs.length, by simpa using h.symm⟩
    obtain ⟨u, rfl⟩ := hv 0 v rfl
    rw [List.range_succ_eq_map, List.map_cons, List.map_map]
    exact .cons _ _ (strs_of (f := f ∘ Nat.succ) (by simpa using h) fun i v hi => hv (i + 1) v (by simpa using hi))
end

section
open PySem PySem.W PyProof.Rows PySem.Calls PyProof.Rows.LCg
/-! a loop over a list of the ledger whose state says its whole ledger -/
/-- between the turns -/
noncomputable def StAt {σ : Type} (Led : σ → List (Addr × Obj)) (ps : σ → List (Str × Value)) (stored : List Str) (x : Str) (m₀ : Str → Option Value) (P : σ → Prop) (m' : Str → Option Value) (nx : List (Addr × Obj)) : Prop :=
  ∃ c : σ, nx = Led c ∧ (∀ p ∈ ps c, m' p.1 = some p.2) ∧ (∀ z, z ≠ x → (∀ p ∈ ps c, z ≠ p.1) → stored.contains z = false → m' z = m₀ z) ∧ P c
section
variable {prog : Program} {w : World} {A : Around} {E : Value → Shared → Prop} {s : Shared} {env : Env} {h₀ : Heap} {x : Str} {body : List Stmt} {Q : Flow → Shared → Prop}
theorem loop_st {σ : Type} {l : Addr} {vs : List Value} {nn : Nat} {m₀ : Str → Option Value} (Led : σ → List (Addr × Obj)) (ps : σ → List (Str × Value)) (stored : List Str) (P : Nat → σ → Prop) (c₀ : σ)
    (hh : A.handled = none) (hl : ∀ i c, P i c → (l, listOf vs.toArray nn) ∈ Led c) (F : Fr h₀ env.locals s.heap m₀) (N : News h₀ env.locals s.heap (Led c₀)) (hk : ∀ p ∈ ps c₀, m₀ p.1 = some p.2) (hp : P 0 c₀)
    (turn : ∀ (c : σ) i v (u : Str → Option Value) h tk own, vs[i]? = some v → OwnOff own ((Led c).map (·.1)) → P i c →
      Fr h₀ env.locals h (fun y => if y = x then some v else kstB (fun z => if stored.contains z then u z else m₀ z) (ps c) y) → News h₀ env.locals h (Led c ++ own) →
      wpAny (model prog w) A (execs body env) (InvPostG h₀ env.locals (StAt Led ps stored x m₀ (P (i + 1))) own { s with heap := h, toks := tk } Q) E { s with heap := h, toks := tk })
    (done : ∀ (c : σ) (u : Str → Option Value) h tk, P vs.length c → Fr h₀ env.locals h (fun y => if y = x then u y else kstB (fun z => if stored.contains z then u z else m₀ z) (ps c) y) → News h₀ env.locals h (Led c) → Q .next { s with heap := h, toks := tk }) :
    wpAny (model prog w) A (pyIter (.ref l)) (fun it s₂ => LoopAtV prog w A h₀ env x body Q E it s₂) E s := by
  refine kdl_iter (fun i m nx => StAt Led ps stored x m₀ (P i) m nx) hh (hl 0 c₀ hp) F N ⟨c₀, rfl, hk, fun _ _ _ _ => rfl, hp⟩ ?_ ?_
  · intro i v m₁ nx h tk own hv hoff _ hI9 F₁ N₁
    refine Classical.byContradiction fun hng9 => ?_
    obtain ⟨c, rfl, h1, h2, hp'⟩ := hI9
    refine hng9 ?_
    clear hng9
    refine wpAny_mono (turn c i v m₁ h tk own hv hoff hp' (kst_fr h1 h2 F₁) N₁) (fun f s₂ p => ?_) fun _ _ e => e
    have fin : InvEndG h₀ env.locals (StAt Led ps stored x m₀ (P (i + 1))) own { s with heap := h, toks := tk } s₂ → InvEndG h₀ env.locals (fun m' nx => (l, listOf vs.toArray nn) ∈ nx ∧ StAt Led ps stored x m₀ (P (i + 1)) m' nx) own { s with heap := h, toks := tk } s₂ := by
      intro hI9
      refine Classical.byContradiction fun hng9 => ?_
      obtain ⟨h', tk', m', news', nx, e, F', N', hn', ho, ha, hm⟩ := hI9
      refine hng9 ?_
      clear hng9
      refine ⟨h', tk', m', news', nx, e, F', N', hn', ho, ha, ?_, hm⟩
      refine Classical.byContradiction fun hng9 => ?_
      obtain ⟨c', rfl, _, _, hp''⟩ := hm
      refine hng9 ?_
      clear hng9
      exact hl _ _ hp''
    cases f with
    | ret v => exact p
    | brk => exact p
    | next => exact fin p
    | cont => exact fin p
  · intro m₁ nx h tk hI9 F₁ N₁
    refine Classical.byContradiction fun hng9 => ?_
    obtain ⟨c, rfl, h1, h2, hp'⟩ := hI9
    refine hng9 ?_
    clear hng9
    exact done c m₁ h tk hp' (kst_frOut h1 h2 F₁) N₁
/-- a turn's end -/
theorem st_end {σ : Type} {Led : σ → List (Addr × Obj)} {ps : σ → List (Str × Value)} {stored : List Str} {m₀ m' : Str → Option Value} {P : σ → Prop} {own nw : List (Addr × Obj)} {s₁ : Shared} {h' : Heap} {tk : Nat} {L : Addr} (c : σ)
    (F : Fr h₀ L h' m') (N : News h₀ L h' nw) (hn : ∀ p ∈ Led c, p ∈ nw) (ho : ∀ p ∈ own, p ∈ nw) (ha : OwnOff own ((Led c).map (·.1))) (hk : ∀ p ∈ ps c, m' p.1 = some p.2)
    (hr : ∀ z, z ≠ x → (∀ p ∈ ps c, z ≠ p.1) → stored.contains z = false → m' z = m₀ z) (hp : P c) :
    InvEndG h₀ L (StAt Led ps stored x m₀ P) own s₁ { s₁ with heap := h', toks := tk } := ⟨h', tk, m', nw, Led c, rfl, F, N, hn, ho, ha, c, rfl, hk, hr, hp⟩
end
/-! a comprehension that keeps what passes a test -/
section
open LCt
variable {prog : Program} {w : World} {A : Around} {h₀ : Heap} {L : Addr} {m : Str → Option Value} {env : Env} {ct elt : Expr} {x : Str} {scope : Scope} {cl : List (Str × Addr)} {s : Shared} {S : List (Addr × Obj) → Prop} {P : Nat → Value → Prop} {Fin : List Value → List (Addr × Obj) → Prop} {news : List (Addr × Obj)}
theorem comp_test (its : List Value) (f : Nat → Bool) (hP : ∀ i v, P i v → its[i]? = some v) (hS : S news)
    (ht : ∀ (i : Nat) ys v I oI C oC D m₂ h tk (E' : Value → Shared → Prop), its[i]? = some v → NsObj oC m₂ → m₂ x = some v → Fr h₀ L h m → News h₀ L h ((I, oI) :: (C, oC) :: (D, lst ys) :: news) → Off3 I C D news → ((@Ne Nat I C) ∧ (@Ne Nat I D) ∧ (@Ne Nat C D)) →
      wpAny (model prog w) A (isTrue ct (compEnvC scope cl C env) (eval ct (compEnvC scope cl C env))) (fun b s' => b = f i ∧ ∃ h' tk', s' = { s with heap := h', toks := tk' } ∧ Fr h₀ L h' m ∧ News h₀ L h' ((I, oI) :: (C, oC) :: (D, lst ys) :: news)) E' { s with heap := h, toks := tk })
    (he : ∀ (i : Nat) ys v I oI C oC D m₂ h tk (E' : Value → Shared → Prop), its[i]? = some v → NsObj oC m₂ → m₂ x = some v → Fr h₀ L h m → News h₀ L h ((I, oI) :: (C, oC) :: (D, lst ys) :: news) → Off3 I C D news → ((@Ne Nat I C) ∧ (@Ne Nat I D) ∧ (@Ne Nat C D)) →
      wpAny (model prog w) A (eval elt (compEnvC scope cl C env)) (fun y s' => y = v ∧ ∃ h' tk', s' = { s with heap := h', toks := tk' } ∧ Fr h₀ L h' m ∧ News h₀ L h' ((I, oI) :: (C, oC) :: (D, lst ys) :: news)) E' { s with heap := h, toks := tk })
    (hfin : Fin ((its.zipIdx.filter fun p => f p.2).map (·.1)) news) : CompRestT prog w A h₀ L m env ct elt x scope cl s S P Fin its.length 0 [] news := by
  have main : ∀ k i ys, i + k = its.length → ys = (((its.take i).zipIdx.filter fun p => f p.2).map (·.1)) → CompRestT prog w A h₀ L m env ct elt x scope cl s S P Fin k i ys news := by
    intro k
    induction k with
    | zero =>
      intro i ys hk hy
      refine .zero ?_
      rw [hy, List.take_of_length_le (by lia)]
      exact hfin
    | succ k ih =>
      intro i ys hk hy
      have hi : i < its.length := by lia
      have next : ∀ v, its[i]? = some v → (((its.take (i + 1)).zipIdx.filter fun p => f p.2).map (·.1)) = ys ++ (if f i then [v] else []) := by
        intro v hv
        rw [List.take_add_one, hv, List.zipIdx_append, List.filter_append, List.map_append, ← hy]
        have hl : (its.take i).length = i := by rw [List.length_take]; lia
        simp only [Option.toList, hl, List.zipIdx_cons, List.zipIdx_nil, Nat.zero_add]
        by_cases hf : f i = true
        · simp [hf]
        · simp [hf]
      refine .succ fun v I oI C oC D m₂ h tk E' hPv hC hx F N off ne => ?_
      have hv := hP _ _ hPv
      refine wpAny_mono (ht i ys v I oI C oC D m₂ h tk E' hv hC hx F N off ne) (fun b s' h' => ?_) fun _ _ e => e
      refine Classical.byContradiction fun hng9 => ?_
      obtain ⟨rfl, h₁, tk₁, rfl, F₁, N₁⟩ := h'
      refine hng9 ?_
      clear hng9
      by_cases hf : f i = true
      · rw [if_pos hf]
        refine wpAny_mono (he i ys v I oI C oC D m₂ h₁ tk₁ E' hv hC hx F₁ N₁ off ne) (fun y s' h' => ?_) fun _ _ e => e
        refine Classical.byContradiction fun hng9 => ?_
        obtain ⟨rfl, h₂, tk₂, rfl, F₂, N₂⟩ := h'
        refine hng9 ?_
        clear hng9
        refine ⟨h₂, tk₂, news, rfl, F₂, N₂, off, hS, ih (i + 1) _ (by lia) ?_⟩
        rw [next y hv, if_pos hf]
      · rw [if_neg hf]
        refine ⟨h₁, tk₁, news, rfl, F₁, N₁, off, hS, ih (i + 1) _ (by lia) ?_⟩
        rw [next v hv, if_neg hf, List.append_nil]
  exact main its.length 0 [] (Nat.zero_add _) rfl
end
/-- a list compared with the empty one -/
theorem eq_nil {prog : Program} {w : World} {A : Around} {E : Value → Shared → Prop} {s : Shared} {h₀ : Heap} {L a b : Addr} {nw : List (Addr × Obj)} {vs : List Value} {n k : Nat} {Q : Value → Shared → Prop}
    (N : News h₀ L s.heap nw) (ha : (a, listOf vs.toArray n) ∈ nw) (hb : (b, listOf #[] k) ∈ nw) (hu : A.units < cLine) (h : Q (.bool vs.isEmpty) s) : wpAny (model prog w) A (compareOp .Eq (.ref a) (.ref b)) Q E s := by
  have hb' : (b, listOf ([] : List Value).toArray k) ∈ nw := hb
  cases vs with
  | nil => exact PySem.SeqAt.eq_listAt (e := fun _ => true) (lst_at N ha) (lst_at N hb') rfl hu (fun j h1 _ => absurd h1 (Nat.not_lt_zero _)) h
  | cons v vs => exact PySem.SeqAt.eq_list_lengthsAt (lst_at N ha) (lst_at N hb') (by simp) hu h
section
variable {prog : Program} {w : World} {A : Around} {E : Value → Shared → Prop} {s : Shared} {h₀ : Heap} {L a b : Addr} {nw : List (Addr × Obj)} {vs us : List Value} {ys zs : List Str} {n k : Nat} {Q : Value → Shared → Prop}
theorem ne_nil (N : News h₀ L s.heap nw) (ha : (a, listOf vs.toArray n) ∈ nw) (hb : (b, listOf #[] k) ∈ nw) (hu : A.units < cLine) (h : Q (.bool (!vs.isEmpty)) s) : wpAny (model prog w) A (compareOp .NotEq (.ref a) (.ref b)) Q E s := by
  have hb' : (b, listOf ([] : List Value).toArray k) ∈ nw := hb
  cases vs with
  | nil => exact PySem.SeqAt.RcNeAt.lists (e := fun _ => true) (lst_at N ha) (lst_at N hb') rfl hu (fun j h1 _ => absurd h1 (Nat.not_lt_zero _)) prog w E Q h
  | cons v vs => exact PySem.SeqAt.RcNeAt.lists_lengths (lst_at N ha) (lst_at N hb') (by simp) hu prog w E Q h
theorem ne_strs (N : News h₀ L s.heap nw) (ha : (a, listOf vs.toArray n) ∈ nw) (hi : StrsAre vs ys) (hb : (b, listOf us.toArray k) ∈ nw) (hi' : StrsAre us zs) (hu : A.units < cLine)
    (h : Q (.bool (!(ys == zs))) s) : wpAny (model prog w) A (compareOp .NotEq (.ref a) (.ref b)) Q E s := by
  have l1 := hi.len_eq
  have l2 := hi'.len_eq
  by_cases hl : vs.length = us.length
  · refine PySem.SeqAt.RcNeAt.lists (e := fun j => ys.getD j Str.empty == zs.getD j Str.empty) (lst_at N ha) (lst_at N hb) (by simpa using hl) hu (fun j h1 h2 => ?_) prog w E Q ?_
    · obtain ⟨t, e1⟩ := strs_get hi j (by simpa using h1)
      obtain ⟨u, e2⟩ := strs_get hi' j (by simpa using h2)
      have e1' : vs.toArray[j] = .str (ys.getD j Str.empty) t := by simpa using e1
      have e2' : us.toArray[j] = .str (zs.getD j Str.empty) u := by simpa using e2
      rw [e1', e2']
      intro prog w E Q hq
      exact eqGives_str _ _ _ _ _ _ _ _ _ _ hq
    · rw [List.size_toArray, l1, all_eq ys zs (by lia)]
      exact h
  · refine PySem.SeqAt.RcNeAt.lists_lengths (lst_at N ha) (lst_at N hb) (by simpa using hl) hu prog w E Q ?_
    have e : (ys == zs) = false := by
      rw [beq_eq_false_iff_ne]
      intro e; subst e; lia
    rw [e] at h
    exact h
end
/-! both ways of a statement meet, nothing but heap and tokens turned -/
noncomputable def MeetK {σ : Type} (s : Shared) (h₀ : Heap) (L : Addr) (Led : σ → List (Addr × Obj)) (ps : σ → List (Str × Value)) (stored : List Str) (m₀ : Str → Option Value) (P : σ → Prop) (s₂ : Shared) : Prop :=
  (∃ h' tk, s₂ = { s with heap := h', toks := tk }) ∧ MeetL h₀ L Led ps stored m₀ P s₂
theorem meetK {σ : Type} {s : Shared} {h₀ : Heap} {L : Addr} {Led : σ → List (Addr × Obj)} {ps : σ → List (Str × Value)} {stored : List Str} {m₀ m' : Str → Option Value} {P : σ → Prop} {h' : Heap} {tk : Nat} {nw : List (Addr × Obj)} (c : σ) (F : Fr h₀ L h' m') (N : News h₀ L h' nw)
    (hn : ∀ p ∈ Led c, p ∈ nw) (hk : ∀ p ∈ ps c, m' p.1 = some p.2) (hr : ∀ z, (∀ p ∈ ps c, z ≠ p.1) → stored.contains z = false → m' z = m₀ z) (hp : P c) : MeetK s h₀ L Led ps stored m₀ P { s with heap := h', toks := tk } :=
  ⟨⟨h', tk, rfl⟩, c, m', nw, F, N, hn, hk, hr, hp⟩
section
variable {prog : Program} {w : World} {A : Around} {E : Value → Shared → Prop} {s : Shared} {h₀ : Heap} {L : Addr}
theorem cutK {σ : Type} {t : Sem Flow} {Q : Flow → Shared → Prop} {m₀ : Str → Option Value} (_F : Fr h₀ L s.heap m₀) (Led : σ → List (Addr × Obj)) (ps : σ → List (Str × Value)) (stored : List Str) (P : σ → Prop)
    (h1 : ∀ R : Flow → Shared → Prop, (∀ s', MeetK s h₀ L Led ps stored m₀ P s' → R .next s') → wpAny (model prog w) A t R E s)
    (h2 : ∀ (c : σ) (u : Str → Option Value) (h : Heap) (tk : Nat), P c → Fr h₀ L h (kstB (fun z => if stored.contains z then u z else m₀ z) (ps c)) → News h₀ L h (Led c) → Q .next { s with heap := h, toks := tk }) :
    wpAny (model prog w) A t Q E s :=
  wpAny_mono (h1 (fun f s' => f = .next ∧ MeetK s h₀ L Led ps stored m₀ P s') fun _ h => ⟨rfl, h⟩) (fun f s' h => by
    refine Classical.byContradiction fun hng9 => ?_
    obtain ⟨rfl, ⟨h', tk, rfl⟩, hm⟩ := h
    refine hng9 ?_
    clear hng9
    refine Classical.byContradiction fun hng9 => ?_
    obtain ⟨c, u, hp, F, N⟩ := meet_use hm
    refine hng9 ?_
    clear hng9
    exact h2 c u h' tk hp F N) fun _ _ e => e
end
end

section
open PySem PySem.W PyProof.Rows PySem.Calls PyProof.Rows.LCg
/-! a list comprehension over a list of the ledger whose element may turn anything (generators too): J says turn, answers, ledger -/
section
variable {prog : Program} {w : World} {A : Around} {E : Value → Shared → Prop} {s : Shared} {h₀ : Heap} {L : Addr} {m : Str → Option Value} {env : Env}
/-- no code record's name: holds of a list's iterator -/
noncomputable def NoTxt (o : Obj) : Prop := ∀ (vs : Array Value) (y : Str) (t : Tok), o.data = .fields vs → vs[1]? = some (.str y t) → False
/-- what a source must show -/
noncomputable def GTurn (prog : Program) (w : World) (A : Around) (h₀ : Heap) (L : Addr) (m : Str → Option Value) (env : Env) (elt : Expr) (x : Str) (scope : Scope) (cl : List (Str × Addr)) (o : OsState) (J : Nat → List Value → List (Addr × Obj) → Prop) (vs : List Value) : Prop :=
  ∀ (i : Nat) v ys nw I oI C oC D m₂ s₂ (E' : Value → Shared → Prop), vs[i]? = some v → J i ys nw → Bare o s₂ → NsObj oC m₂ → m₂ x = some v → Fr h₀ L s₂.heap m → News h₀ L s₂.heap ((I, oI) :: (C, oC) :: (D, lst ys) :: nw) → Off3 I C D nw → ((@Ne Nat I C) ∧ (@Ne Nat I D) ∧ (@Ne Nat C D)) → NoTxt oI →
      wpAny (model prog w) A (eval elt (compEnvC scope cl C env)) (fun y s₃ => ∃ nw', Bare o s₃ ∧ Fr h₀ L s₃.heap m ∧ News h₀ L s₃.heap ((I, oI) :: (C, oC) :: (D, lst ys) :: nw') ∧ Off3 I C D nw' ∧ J (i + 1) (ys ++ [y]) nw') E' s₂
noncomputable def GFin (h₀ : Heap) (L : Addr) (m : Str → Option Value) (Q : Value → Shared → Prop) (o : OsState) (J : Nat → List Value → List (Addr × Obj) → Prop) (vs : List Value) : Prop :=
  ∀ ys nw D s₂, J vs.length ys nw → Bare o s₂ → Fr h₀ L s₂.heap m → News h₀ L s₂.heap ((D, lst ys) :: nw) → Off1 D nw → Q (.ref D) s₂
noncomputable def GSrc (prog : Program) (w : World) (A : Around) (h₀ : Heap) (L : Addr) (m : Str → Option Value) (env : Env) (elt : Expr) (x : Str) (scope : Scope) (cl : List (Str × Addr)) (Q : Value → Shared → Prop) (xv : Value) (s₁ : Shared) : Prop :=
  ∃ (o : OsState) (J : Nat → List Value → List (Addr × Obj) → Prop) (ax : Addr) (vs : List Value) (nn : Nat) (news : List (Addr × Obj)), xv = .ref ax ∧ A.handled = none ∧ Fr h₀ L s₁.heap m ∧ News h₀ L s₁.heap news ∧ vs.length ≤ sizeLine ∧ (∀ i ys nw, J i ys nw → (ax, listOf vs.toArray nn) ∈ nw) ∧ J 0 [] news ∧ Bare o s₁ ∧ GTurn prog w A h₀ L m env elt x scope cl o J vs ∧ GFin h₀ L m Q o J vs
theorem listComp_G {elt iter : Expr} {x : Str} {px : Pos} {scope : Scope} {cl : List (Str × Addr)} {pos : Pos} {Q : Value → Shared → Prop} (F₀ : Fr h₀ L s.heap m)
    (hclos : closureFor scope env = pure cl) (hcell : ∀ y ∈ scope.names, y.2 ≠ .cell) (hkind : scope.kind = .function)
    (hnames : ∀ y ∈ scope.names, y.2 = .local → scope.names.lookup y.1 = some .local) (hx : scope.names.lookup x = some .local)
    (h : wpAny (model prog w) A (eval iter env) (GSrc prog w A h₀ L m env elt x scope cl Q) E s)
    (hs : ∀ x, foldedSetIterable iter env x = pure x := by intro _; rfl) :
    wpAny (model prog w) A (eval (.ListComp elt [⟨.Name x px, iter, [], 0⟩] scope pos) env) Q E s := by
  rw [eval_ListComp]
  refine wpAny_comprehension_free (use := none) rfl hs hclos hkind hnames (wpAny_mono h (fun xv s₁ h₁ => ?_) fun _ _ e => e)
  obtain ⟨o, J, ax, vs, nn, news, rfl, hh, F, N, hsz, hsrc, hJ, hB₁, turn, fin⟩ := h₁
  have hl : s₁.heap.IsList ax vs.toArray := lst_at N (hsrc _ _ _ hJ)
  have hlt : ax < s₁.heap.objs.size := by obtain ⟨_, e, _⟩ := hl; exact Heap.lt_size e
  have W := Walks.list (prog := prog) (w := w) hh s₁.heap.objs.size ax (Nat.ne_of_lt hlt) vs.toArray
  have hvl : vs.toArray.size = vs.length := by simp
  rw [hvl] at W
  refine wpAny_pyIter_list hl ?_
  have up1 : ∀ b o, s₁.heap.get? b = some o → (s₁.heap.push { cls := .type "list_iterator", data := .fields #[.ref ax, .int 0 0] }).get? b = some o := fun b o e => Heap.get?_push_of_some _ e
  have it1 : (s₁.heap.push { cls := .type "list_iterator", data := .fields #[.ref ax, .int 0 0] }).IsListIter s₁.heap.objs.size ax 0 := ⟨_, Heap.get?_push_size _ rfl, rfl, rfl⟩
  have sz1 : (s₁.heap.push { cls := .type "list_iterator", data := .fields #[.ref ax, .int 0 0] }).objs.size = s₁.heap.objs.size + 1 := Heap.size_push ..
  generalize s₁.heap.push { cls := .type "list_iterator", data := .fields #[.ref ax, .int 0 0] } = H1 at up1 it1 sz1 ⊢
  refine wpAny_newObj_type (wpAny_newFunctionEnv hcell (by intro y hy; simp at hy) (fun h₁ hns₁ hsb₁ => ?_) hkind)
  dsimp only at hns₁ hsb₁ ⊢
  generalize hH2 : H1.push { cls := .type "list", dict := none, data := .seq ([] : List Value).toArray } = H2 at hns₁ hsb₁ ⊢
  have sz2 : H2.objs.size = s₁.heap.objs.size + 2 := by rw [← hH2, Heap.size_push, sz1]
  generalize hI : s₁.heap.objs.size = I at *
  generalize hD : H1.objs.size = D at *
  generalize hC : H2.objs.size = C at *
  have hIC : @Ne Nat I C := by rw [sz2]; exact Nat.ne_of_lt (Nat.lt_succ_of_lt (Nat.lt_succ_self _))
  have hID : @Ne Nat I D := by rw [sz1]; exact Nat.ne_of_lt (Nat.lt_succ_self _)
  have hCD : @Ne Nat C D := by rw [sz1, sz2]; exact Nat.ne_of_gt (Nat.lt_succ_self _)
  have old : ∀ b o, H1.get? b = some o → h₁.get? b = some o := fun b o e => hsb₁.extBut b o (by
    have := Heap.lt_size e
    rw [hD, sz1] at this
    rw [sz2]
    exact Nat.ne_of_lt (Nat.lt_succ_of_lt this)) (Heap.get?_push_of_some _ (hH2 ▸ Heap.get?_push_of_some _ e))
  have hacc0 : H2.get? D = some (lst []) := by rw [← hD, ← hH2]; exact Heap.get?_push_size _ rfl
  have hacc : h₁.get? D = some (lst []) := hsb₁.extBut _ _ (Ne.symm hCD) (Heap.get?_push_of_some _ hacc0)
  have none0 : ∀ a : Addr, I ≤ a → h₀.get? a = none := fun a ha => by
    cases e : h₀.get? a with
    | none => rfl
    | some o => have e2 := Heap.lt_size (F.keep a o e); rw [hI] at e2; exact absurd e2 (Nat.not_lt.mpr ha)
  have hI₀ := none0 I (Nat.le_refl _)
  have hD₀ : h₀.get? D = none := none0 D (by rw [sz1]; exact Nat.le_succ _)
  have hC₀ : h₀.get? C = none := none0 C (by rw [sz2]; exact Nat.le_succ_of_le (Nat.le_succ _))
  have hLlt : L < I := by have := F.ns.lt; rw [hI] at this; exact this
  have hIL : I ≠ L := Ne.symm (Nat.ne_of_lt hLlt)
  have hDL : D ≠ L := by rw [sz1]; exact Nat.ne_of_gt (Nat.lt_succ_of_lt hLlt)
  have hCL : C ≠ L := by rw [sz2]; exact Nat.ne_of_gt (Nat.lt_succ_of_lt (Nat.lt_succ_of_lt hLlt))
  have off₀ : Off3 I C D news := Off3.of fun p hp => by
    have := Heap.lt_size (N p hp).1
    rw [hI] at this
    exact ⟨Nat.ne_of_lt this, by rw [sz2]; exact Nat.ne_of_lt (Nat.lt_succ_of_lt (Nat.lt_succ_of_lt this)), by rw [sz1]; exact Nat.ne_of_lt (Nat.lt_succ_of_lt this)⟩
  have loop : ∀ s₃ : Shared, s₃.heap = h₁ → Bare o s₃ →
      codeAny (model prog w) A (.compLoop (.ListComp elt [⟨.Name x px, iter, [], 0⟩] scope pos) 0 (.ref I) (.ref D) (compEnvC scope cl C env))
        (compPost (model prog w) A E none Q (.ref D) C) s₃ := by
    intro s₃ hs₃ hB₃
    refine codeAny_compLoop_tests
      (fun k s' => ∃ i ys m' nw, i ≤ vs.length ∧ k = vs.length + 1 - i ∧ ys.length = i ∧ s'.heap.IsListIter I ax i ∧ Fr h₀ L s'.heap m ∧ s'.heap.Ns C m' ∧ News h₀ L s'.heap ((D, lst ys) :: nw) ∧ Off3 I C D nw ∧ J i ys nw ∧ Bare o s') ?_ (vs.length + 1)
      ⟨0, [], _, news, Nat.zero_le _, rfl, rfl, hs₃ ▸ it1.at fun o e => old _ o e, hs₃ ▸ F.keeps fun b o e => old b o (up1 b o e), hs₃ ▸ hns₁, fun p hp => ?_, off₀, hJ, hB₃⟩
    · rintro k s' ⟨i, ys, m', nw, hi, rfl, hyl, hit, F', hn', N', off', hJ', hB'⟩
      have ls' : s'.heap.IsList ax vs.toArray := lst_at (fun p hp => N' p (.tail _ hp)) (hsrc _ _ _ hJ')
      by_cases hlt : i < vs.length
      · refine W.item i _ _ _ hlt ⟨hit, ls'⟩ fun v h₂ tk₂ hPv hst₂ hk₂ => ?_
        refine wpAny_assign_Name (wpAny_storeName_local (lookup_relabel_local hx) (hn'.at' fun o e => hk₂ _ o (by simpa using Ne.symm hIC) e) (fun h₃ hn₃ hs₃ => ?_) (by simp [compEnvC, relabel, hkind]))
        refine wpAny_tests_nil ?_
        simp only [if_true]
        have it3 : h₃.IsListIter I ax (i + 1) := hst₂.1.at fun o e => hs₃.extBut _ _ hIC e
        obtain ⟨oI, heI, rI⟩ := id it3
        obtain ⟨oC, heC, hoC⟩ := ns_obj hn₃
        have F₃ : Fr h₀ L h₃ m := (fr_but F' hk₂ (Ne.symm hIL) hI₀).change hs₃ hCL hC₀
        have off3 := off'.mem
        have N₂ : News h₀ L h₂ ((D, lst ys) :: nw) := news_but N' hk₂ fun p hp => by
          rcases List.mem_cons.mp hp with rfl | hp
          · exact Ne.symm hID
          · exact (off3 p hp).1
        have N₃ : News h₀ L h₃ ((I, oI) :: (C, oC) :: (D, lst ys) :: nw) := fun p hp => by
          rcases List.mem_cons.mp hp with rfl | hp
          · exact ⟨heI, hIL, hI₀⟩
          · rcases List.mem_cons.mp hp with rfl | hp
            · exact ⟨heC, hCL, hC₀⟩
            · have z := N₂ p hp
              refine ⟨hs₃.extBut _ _ ?_ z.1, z.2⟩
              rcases List.mem_cons.mp hp with rfl | hp
              · exact Ne.symm hCD
              · exact (off3 p hp).2.1
        refine wpAny_mono (turn i v ys nw I oI C oC D _ { s' with heap := h₃, toks := _ } _ (by simpa using hPv) hJ' hB' hoC (by simp) F₃ N₃ off' ⟨hIC, hID, hCD⟩ (fun vs' y' t' e1 e2 => by rw [rI.2] at e1; cases e1; cases e2)) (fun y s₄ h₄ => ?_) fun _ _ e => e
        obtain ⟨nw₄, hB₄, F₄, N₄, off₄, hJ₄⟩ := h₄
        have zI := (N₄ (I, oI) (.head _)).1
        have zC := (N₄ (C, oC) (.tail _ (.head _))).1
        have zD := (N₄ (D, lst ys) (.tail _ (.tail _ (.head _)))).1
        have N₄' : News h₀ L s₄.heap nw₄ := fun p hp => N₄ p (.tail _ (.tail _ (.tail _ hp)))
        refine append_at (hsz := by rw [List.size_toArray, hyl]; exact Nat.le_trans hi hsz) zD fun h₅ hs₅ hD₅ => ?_
        have off4 := off₄.mem
        refine ⟨vs.length + 1 - (i + 1), by lia, i + 1, ys ++ [y], _, nw₄, hlt, rfl, by rw [List.length_append, List.length_singleton, hyl], ?_, F₄.change hs₅ hDL hD₀, (hoC.ns zC).sameBut hs₅ hCD, fun p hp => ?_, off₄, hJ₄, hB₄⟩
        · exact ⟨oI, hs₅.extBut _ _ hID zI, rI⟩
        · rcases List.mem_cons.mp hp with rfl | hp
          · exact ⟨hD₅.trans (congrArg some (lst_snoc ys y)), hDL, hD₀⟩
          · exact ⟨hs₅.extBut _ _ (off4 p hp).2.2 (N₄' p hp).1, (N₄' p hp).2⟩
      · obtain rfl : i = vs.length := Nat.le_antisymm hi (Nat.not_lt.mp hlt)
        refine W.done _ _ _ ⟨hit, ls'⟩ fun h₂ tk₂ hk₂ => ?_
        have off3 := off'.mem
        have hn₂ : h₂.Ns C m' := hn'.at' fun o e => hk₂ _ o (by simpa using Ne.symm hIC) e
        have N₂ : News h₀ L h₂ ((D, lst ys) :: nw) := news_but N' hk₂ fun p hp => by
          rcases List.mem_cons.mp hp with rfl | hp
          · exact Ne.symm hID
          · exact (off3 p hp).1
        refine ⟨m', hn₂, fun h'' hs'' => fin ys nw D { s' with heap := h'', toks := tk₂ } hJ' hB' ((fr_but F' hk₂ (Ne.symm hIL) hI₀).change hs'' hCL hC₀) (fun p hp => ?_) off'.one⟩
        refine ⟨hs''.extBut _ _ ?_ (N₂ p hp).1, (N₂ p hp).2⟩
        rcases List.mem_cons.mp hp with rfl | hp
        · exact Ne.symm hCD
        · exact (off3 p hp).2.1
    · rcases List.mem_cons.mp hp with rfl | hp
      · exact ⟨hs₃ ▸ hacc, hDL, hD₀⟩
      · exact ⟨hs₃ ▸ old _ _ (up1 _ _ (N p hp).1), (N p hp).2⟩
  refine codeAny_compStart_list (loop _ rfl hB₁) (W.self 0 _ _ _ ⟨it1.at fun o e => old _ o e, ?_⟩ (loop _ rfl hB₁))
  exact hl.at fun o e => old _ o (up1 _ o e)
end
end

section
open PySem PySem.W PyProof.Rows PySem.Calls
/-- the law's end where generators have been made: they are bare -/
theorem kn_postA {M : Model} {A : Around} {cd : Code} {s s₁ : Shared} {cw : ClaimW} {c : Str → Option Addr} {mean : ExcName → Option Value} {args : List WData} {tabs : List (Addr × Addr)} (hT : TabsAt tabs s₁.heap) (hr : ∀ a x, cw.raises a x = false)
    (h : codeAny M A cd (fun r s' => (GoodW cw c mean args { s₁ with heap := ghostOf s₁.heap tabs } r { s' with gens := #[] } ∧ AllBare s'.gens) ∧ GrownAll tabs s'.heap) s) : codeAny M A cd (GoodWG cw c mean args s₁) s := by
  refine codeAny_mono h fun r s' g => ?_
  obtain ⟨⟨⟨hc, hk, hos, _⟩, hbare⟩, hgr⟩ := g
  have other : ∀ b o, b ∉ tabs.map (·.2) → s₁.heap.get? b = some o → s'.heap.get? b = some o := fun b o hb e => hk b o (ghost_ne e hb)
  have table : ∀ b o, b ∈ tabs.map (·.2) → s₁.heap.get? b = some o → isCodeTable s₁.heap b ∧ o = tabObj #[] ∧ ∃ ps, s'.heap.get? b = some (tabObj ps) := by
    intro b o hb e
    obtain ⟨q, hq, rfl⟩ := List.mem_map.mp hb
    have e2 := (hT q hq).2
    rw [e] at e2
    exact ⟨((hT q hq).1.tab (hT q hq).2).isCodeTable, Option.some.inj e2, hgr.get q hq⟩
  refine ⟨?_, ⟨?_, ?_⟩, hos, hbare⟩
  · rcases hc with ⟨v, d, as, r1, r2, r3, r4, r5⟩ | ⟨e, ob, x, _, _, _, r4, _⟩
    · refine .inl ⟨v, d, as, r1, r2, r3, r4, fun q => ⟨(r5 q).1, fun a ha => ?_⟩⟩
      cases q1 : s₁.heap.get? a with
      | none => rfl
      | some o =>
        by_cases hb : a ∈ tabs.map (·.2)
        · obtain ⟨_, _, ps, hP⟩ := table a o hb q1
          exact absurd ha (readsW_apart hP rfl r3)
        · have e3 := (r5 q).2 a ha
          rw [show (ghostOf s₁.heap tabs).get? a = some o from ghost_ne q1 hb] at e3
          cases e3
    · rw [hr] at r4; cases r4
  · intro b o e
    by_cases hb : b ∈ tabs.map (·.2)
    · obtain ⟨ht, rfl, ps, hP⟩ := table b o hb e
      exact .inr (.inl ⟨ht, rfl, #[], ps, rfl, by rw [Array.empty_append]; exact hP⟩)
    · exact .inl (other b o hb e)
  · intro b o e
    by_cases hb : b ∈ tabs.map (·.2)
    · obtain ⟨_, _, ps, hP⟩ := table b o hb e
      exact ⟨_, hP⟩
    · exact ⟨o, other b o hb e⟩
end

section
open PySem PySem.W PyProof.Rows PySem.Calls
theorem mw_P6_0 : True := by
  k_with_none
  trivial
theorem mw_P6_1 : True := by
  (k_with "Mdrop" => first | assumption | (refine' cb_drop ?cbN ?cbS; (case cbN => assumption); (case cbS => kcj_all)))
  (k_with "Muse" => (
        (case k1 => first | k_asm | ktn_no "use: the frames below")
        (case k2 => first | k_asm | ktn_no "use: the frame")
        (case k3 => first | k_asm | ktn_no "use: the written part")
        (case k4 => first | k_asm | ktn_no "use: the ledger")
        (case k5 => first | k_asm | ktn_no "use: the top's facts")
        (case k6 => first | exact rfl | assumption | ktn_no "use: the caller is no def")
        (case k7 => first | ktr_room | ktn_no "use: the frames' room")
        (case k8 => first | ktr_units | ktn_no "use: the C units")))
  trivial
theorem gm_translate {M : Model} {A : Around} {E : Value → Shared → Prop} {s : Shared} {x : Str} {t : Tok} {pl : Sem Bool} {Q : Value × List Value → Shared → Prop} (h : Q (.builtin "str.translate", [.str x t]) s) : wpAny M A (getMethod (.str x t) (Str.ofString "translate") pl) Q E s := by
  with_reducible exact GM.of (.str x t) (typeIs_str _ _ _) F.slot_str_translate F.type_str_translate GM.noRef h
noncomputable def escEs (P : Params) : Array DictEntry := match (hd.heap_39 P).lookup 45 with | some ⟨_, _, .dict es _, _⟩ => es | _ => #[]
noncomputable def escN (P : Params) : Nat := match (hd.heap_39 P).lookup 45 with | some ⟨_, _, .dict _ n, _⟩ => n | _ => 0
theorem esc_obj (P : Params) : (hd.heap_39 P).lookup 45 = some ⟨.type "dict", none, .dict (escEs P) (escN P), #[]⟩ := rfl
theorem esc_keys (P : Params) : ((escEs P).all fun e => match e.key with | .int k _ => e.hash == hashInt k | _ => false) = true := by kernel_rfl
theorem esc_ok (P : Params) : escOk (escEs P) = true := by kernel_rfl
theorem mw_P6_2 : True := by
  (k_with "call builtin:str.translate" => (k_here; k_dflt (refine' translate_K ?k1 ?k2 ?k3 ?k4 (esc_obj _) (esc_keys _) (esc_ok _) ?k5 ?k6 ?_; (case k1 => k_asm); (case k2 => k_asm); (case k3 => k_asm); (case k4 => exact rfl); (case k5 => rfl); (case k6 => assumption); k_whole); intro _ _ _ _ _))
  (k_with "getMethod str" => ((with_reducible show wpAny _ _ (getMethod (Value.str _ _) (PySem.Str.ofString "translate") _) _ _ _); (with_reducible refine gm_translate ?_)))
  trivial
theorem escape_does (w : World) (mean : ExcName → Option Value) (mg mb : Str → Option Value) (news : List (Addr × Obj)) (c : Nat) (t : Tok) (hc : c < 128) :
  Does PySem.Challenge.rw_rx0110_02.row.prog w (hd.heap_39 w.params) topProg (looseW hd.view_39 [Str.ofString "_twin_re_1", Str.ofString "_special_chars_map"] ++ (recsOf hd.view_39).map (fun x => x.name) ++ (litsOf hd.view_39).map (fun x => x.1) ++ (clssOf hd.view_39 (looseW hd.view_39 [Str.ofString "_twin_re_1", Str.ofString "_special_chars_map"])).map (fun x => x.name)) mean mg mb 55 1 news [Value.str ⟨#[c]⟩ t] (fun n r => news = n ∧ ∃ u, r = .str (escS c) u) := by
  k_fill
  unfold Does
  intro dp un gd cn cs a ccd cl outer A₀ base h₀ L m s Q E B F X N T hk hd hu hret
  refine wpAny_call ?_
  (k_dflt cell_enter)
  k_steps
  all_goals exact hret news _ _ _ ⟨rfl, _, rfl⟩ (by assumption) (by walk_at "Mdrop")
end

section
open PySem PySem.W PyProof.Rows PySem.Calls
/-! a text in a box: f'[{name}]' -/
section
variable {M : Model} {A : Around} {E : Value → Shared → Prop} {s : Shared} {h₀ : Heap} {L a : Addr} {m : Str → Option Value} {cn : Str} {cs : Scope} {ccd : Value} {cl : List (Str × Addr)} {x y p q : Str} {t : Tok} {ka kb : Nat} {px pa pf pb pos : Pos} {Q : Value → Shared → Prop}
theorem fstr_name (F : Fr h₀ L s.heap m) (hv : m x = some (.str y t)) (hp : p.length ≤ 16) (hq : q.length ≤ 16) (hy : y.length ≤ 1000000) (h : ∀ t' k, 0 < k → Q (.str (Str.empty ++ p ++ y ++ q) t') { s with toks := k })
    (hk : cs.kind = .function := by rfl) (hx : (envX cn cs L a ccd cl).kindOf x = some .local := by rfl) (hd : (x == ("__debug__" : Str)) = false := by decide) :
    wpAny M A (eval (.JoinedStr [.Constant (.str p) ka pa, .FormattedValue (.Name x px) (-1) none pf, .Constant (.str q) kb pb] pos) (envX cn cs L a ccd cl)) Q E s := by
  have e0 : Str.empty.length = 0 := rfl
  have z1 : (Str.empty ++ p).length ≤ sizeLine := by rw [strLen_append, e0, sizeLine_eq]; omega
  have z2 : (Str.empty ++ p ++ y).length ≤ sizeLine := by rw [strLen_append, strLen_append, e0, sizeLine_eq]; omega
  have z3 : (Str.empty ++ p ++ y ++ q).length ≤ sizeLine := by rw [strLen_append, strLen_append, strLen_append, e0, sizeLine_eq]; omega
  have z4 : y.length ≤ sizeLine := by rw [sizeLine_eq]; omega
  refine JoinedStr_many (joinParts_cons (Constant_str ⟨z1, ?_⟩))
  refine joinParts_cons (FormattedValue_plain (nameX_L F hv ?_ hk hx hd))
  refine formatField_str (fun t' tk => ⟨z2, ?_⟩) z4
  refine joinParts_consE (joinParts_cons (Constant_str ⟨z3, ?_⟩))
  exact joinParts_nilE (joinParts_nil (h _ _ (Nat.succ_pos _)) z3)
end
theorem le_mil {n : Nat} (h : n ≤ 100000) : n ≤ 1000000 := Nat.le_trans h (by decide)
theorem le_mil1 {n : Nat} (h : n ≤ 100000) : 1 + n ≤ 1000000 := by omega
end

section
open PySem PySem.W PyProof.Rows PySem.Calls
theorem mw_P7_0 : True := by
  k_with_none
  trivial
theorem mw_P7_1 : True := by
  (k_with "Mdrop" => first | assumption | (refine' cb_drop ?cbN ?cbS; (case cbN => assumption); (case cbS => kcj_all)))
  (k_with "Muse" => (
        (case k1 => first | k_asm | ktn_no "use: the frames below")
        (case k2 => first | k_asm | ktn_no "use: the frame")
        (case k3 => first | k_asm | ktn_no "use: the written part")
        (case k4 => first | k_asm | ktn_no "use: the ledger")
        (case k5 => first | k_asm | ktn_no "use: the top's facts")
        (case k6 => first | exact rfl | assumption | ktn_no "use: the caller is no def")
        (case k7 => first | ktr_room | ktn_no "use: the frames' room")
        (case k8 => first | ktr_units | ktn_no "use: the C units")))
  trivial
theorem mw_P7_2 : True := by
  (k_with "exec While Compare cons nil" => (refine stuck_at ?_))
  (k_with "getAttr ref" => (k_dflt (refine' app_bound ?k1 ?k2 ?k3 ?_; (case k1 => k_asm); (case k2 => k_asm); (case k3 => k_mem); k_whole); intro _ _ _ _ l1; (try k_lt l1); (try (revert l1; intro _))))
  trivial
structure TrS where
  i : Nat
  ti : Tok
  vs : List Value
  tb : Array Value
  ex : List (Addr × Obj)
  fuel : Nat
  out : List (Option Str)
noncomputable abbrev posL : Pos := ⟨61, 39, 61, 76⟩
noncomputable abbrev TrOk (x : Str) (rest : List (Addr × Obj)) (D B : Addr) (fin : List (Option Str)) (c : TrS) : Prop :=
  c.i ≤ x.length ∧ OutAre c.vs c.out ∧ c.out.length ≤ c.i ∧ TabOk posL (Str.ofString "_translate.<locals>.<lambda>") (c.ex ++ rest) c.tb ∧ trF x c.fuel c.i c.out = some fin ∧ (∀ q ∈ c.ex, q.1 ≠ 57 ∧ q.1 ≠ D ∧ q.1 ≠ B)
theorem mw_P7_3 : True := by
  (k_with "exec If BoolOp cons nil" => (refine stuck_at ?_))
  (k_with "callWith ref" => (k_dflt (refine' callWith_bnd ?k1 ?k2 ?_ ?k3 ?k4; (case k1 => k_asm); (case k2 => k_mem); (case k3 => rfl); (case k4 => rfl); k_whole)))
  (k_with "And" => ((with_reducible show BndAt _ _ _ ∧ _); k_dflt (refine' And.intro (a := BndAt _ _ _) (bnd_of ?k1 ?k2) ?_; (case k1 => k_asm); (case k2 => k_mem); k_whole)))
  (k_with "call ref" => (k_dflt (refine' call_bnd ?k1 ?k2 ?k3 ?k4 ?_ ?k5; (case k1 => k_asm); (case k2 => k_asm); (case k3 => k_mem); (case k4 => k_upd); (case k5 => (simp only [List.size_toArray, sizeLine_eq]; omega)); k_whole); intro _ _ _))
  trivial
local macro_rules | `(tactic| k_all) => `(tactic| assumption)
theorem mw_P7_4 : True := by
  (k_with "call ref" => ((with_reducible show wpAny _ _ (call (Value.ref 55) _) _ _ _); (refine stuck_at ?_)))
  (k_with "truthy ref" => (k_here; (with_reducible show wpAny _ _ (truthy (Value.ref _)) _ _ _); k_dflt (refine' tru_snoc ?k1 ?k2 ?k3 ?_; (case k1 => k_asm); (case k2 => k_mem); (case k3 => assumption); k_whole)))
  (k_with "subscriptTail Name UnaryOp ref int" => (k_here; (with_reducible show wpAny _ _ (subscriptTail _ _ (Value.ref _) (Value.int _ _)) _ _ _); k_dflt (refine' item_snoc ?k1 ?k2 ?k3 ?_; (case k1 => k_asm); (case k2 => k_mem); (case k3 => assumption); k_whole)))
  trivial
/-- a turn's end -/
theorem tr_go {o : OsState} {h₀ : Heap} {L D Bn : Addr} {rest : List (Addr × Obj)} {x : Str} {fin : List (Option Str)} {stored : List Str} {m₀ m' : Str → Option Value} {Q : Flow → Shared → Prop} {k : Nat} {s₂ : Shared} {its : Array Value} {n : Nat} {iv : Int} (i : Nat) (ti : Tok) (vs : List Value) (tb : Array Value) (ex : List (Addr × Obj)) (fuel : Nat) (out : List (Option Str))
    (F : Fr h₀ L s₂.heap m') (N : News h₀ L s₂.heap ((57, tabObj tb) :: (D, listOf its n) :: (Bn, bndApp D) :: (ex ++ rest))) (he : its = vs.toArray) (hn : n = vs.length) (hk : m' (Str.ofString "i") = some (.int iv ti)) (hiv : iv = (i : Int)) (hr : ∀ z, z ≠ Str.ofString "i" → stored.contains z = false → m' z = m₀ z)
    (hi : i ≤ x.length) (hO : OutAre vs out) (hol : out.length ≤ i) (hT : TabOk posL (Str.ofString "_translate.<locals>.<lambda>") (ex ++ rest) tb) (hf : trF x fuel i out = some fin) (hex : ∀ q ∈ ex, q.1 ≠ 57 ∧ q.1 ≠ D ∧ q.1 ≠ Bn) (hlt : fuel < k)
    (hB : Bare o s₂ := by first | with_reducible assumption | exact And.right (by with_reducible assumption) | assumption | exact And.right (by assumption)) :
    WhlG o h₀ L (fun c : TrS => (57, tabObj c.tb) :: (D, listOf c.vs.toArray c.vs.length) :: (Bn, bndApp D) :: (c.ex ++ rest)) (fun c => [(Str.ofString "i", .int (c.i : Int) c.ti)]) stored m₀ (TrOk x rest D Bn fin) (fun c => c.fuel) Q k .next s₂ := by
  subst he hn hiv
  exact meet (⟨i, ti, vs, tb, ex, fuel, out⟩ : TrS) F N (fun _ h => h) (List.forall_mem_cons.mpr ⟨hk, fun _ h => nomatch h⟩) (fun z hz hp9 => hr z (hz _ (.head _)) hp9) ⟨⟨hi, hO, hol, hT, hf, hex⟩, hlt⟩
theorem mw_P7_5 : True := by
  (k_with "exec While BoolOp cons nil" => (refine stuck_at ?_))
  (k_with "exec While Constant cons nil" => (refine stuck_at ?_))
  (k_with "exec If Compare cons cons" => ((with_reducible show wpAny _ _ (exec (Stmt.If (Expr.Compare (Expr.Constant _ _ _) _ _ _) _ _ _) _) _ _ _); (refine stuck_at ?_)))
  trivial
/-- a turn's end with a text put down -/
theorem tr_goT {o : OsState} {h₀ : Heap} {L D Bn : Addr} {rest nw : List (Addr × Obj)} {x y y' : Str} {tk : Tok} {fin : List (Option Str)} {stored : List Str} {m₀ m' : Str → Option Value} {Q : Flow → Shared → Prop} {k : Nat} {s₂ : Shared} {iv : Int} {ti : Tok} (i : Nat) (vs : List Value) (tb : Array Value) (ex : List (Addr × Obj)) (fuel : Nat) (out : List (Option Str))
    (F : Fr h₀ L s₂.heap m') (N : News h₀ L s₂.heap nw) (hs : ∀ p ∈ (57, tabObj tb) :: (D, listOf (vs.toArray.push (.str y tk)) (vs.length + 1)) :: (Bn, bndApp D) :: (ex ++ rest), p ∈ nw) (hy : y = y') (hk : m' (Str.ofString "i") = some (.int iv ti)) (hiv : iv = (i : Int)) (hr : ∀ z, z ≠ Str.ofString "i" → stored.contains z = false → m' z = m₀ z)
    (hi : i ≤ x.length) (hO : OutAre vs out) (hol : out.length + 1 ≤ i) (hT : TabOk posL (Str.ofString "_translate.<locals>.<lambda>") (ex ++ rest) tb) (hf : trF x fuel i (out ++ [some y']) = some fin) (hex : ∀ q ∈ ex, q.1 ≠ 57 ∧ q.1 ≠ D ∧ q.1 ≠ Bn) (hlt : fuel < k)
    (hB : Bare o s₂ := by first | with_reducible assumption | exact And.right (by with_reducible assumption) | assumption | exact And.right (by assumption)) :
    WhlG o h₀ L (fun c : TrS => (57, tabObj c.tb) :: (D, listOf c.vs.toArray c.vs.length) :: (Bn, bndApp D) :: (c.ex ++ rest)) (fun c => [(Str.ofString "i", .int (c.i : Int) c.ti)]) stored m₀ (TrOk x rest D Bn fin) (fun c => c.fuel) Q k .next s₂ := by
  subst hy
  exact tr_go i ti (vs ++ [.str y tk]) tb ex fuel (out ++ [some y]) F (fun p hp => N p (hs p hp)) (by simp) (by simp) hk hiv hr hi hO.snocT (by simp; omega) hT hf hex hlt
structure StS where
  t : Tok
  tb : Array Value
  ex : List (Addr × Obj)
theorem meetS {o : OsState} {h₀ : Heap} {L : Addr} {Led : StS → List (Addr × Obj)} {stored : List Str} {m₀ m' : Str → Option Value} {P : StS → Prop} {s₂ : Shared} {nw : List (Addr × Obj)} {y y0 : Str} {t : Tok} (tb : Array Value) (ex : List (Addr × Obj)) (F : Fr h₀ L s₂.heap m') (N : News h₀ L s₂.heap nw)
    (hn : ∀ p ∈ Led ⟨t, tb, ex⟩, p ∈ nw) (hk : m' (Str.ofString "stuff") = some (.str y t)) (hy : y = y0) (hr : ∀ z, z ≠ Str.ofString "stuff" → stored.contains z = false → m' z = m₀ z) (hp : P ⟨t, tb, ex⟩)
    (hB : Bare o s₂ := by first | with_reducible assumption | exact And.right (by with_reducible assumption) | assumption | exact And.right (by assumption)) :
    MeetAt o h₀ L Led (fun c : StS => [(Str.ofString "stuff", .str y0 c.t)]) stored m₀ P s₂ := by
  subst hy
  exact meet (⟨t, tb, ex⟩ : StS) F N hn (List.forall_mem_cons.mpr ⟨hk, fun _ h => nomatch h⟩) (fun z hz hc => hr z (hz _ (.head _)) hc) hp
theorem mw_P7_6 : True := by
  (k_with "call builtin:str.replace" => (k_dflt (refine' replP ?k1 ?k2 ?k3 ?k4 ?k5 ?k6 ?_; (case k1 => assumption); (case k2 => exact Nat.lt_succ_self _); (case k3 => exact Nat.lt_succ_self _); (case k4 => decide +kernel); (case k5 => (first | omega | assumption)); (case k6 => decide +kernel); k_whole); intro _ _ _))
  (k_with "execs cons" => (k_here; (fail_if_success (with_reducible refine' has_pos ?k1 ?_; (case k1 => (with_reducible assumption)))); k_dflt (refine' gen_pos ?k1 ?_; (case k1 => first | exact Nat.succ_pos _ | omega); k_whole); intro _ _))
  trivial
noncomputable def patFs (P : Params) : Array Value := match (hd.heap_39 P).lookup 43 with | some ⟨_, _, .fields fs, _⟩ => fs | _ => #[]
noncomputable def patIts (P : Params) : Array Value := match (hd.heap_39 P).lookup 42 with | some ⟨_, _, .seq its _, _⟩ => its | _ => #[]
noncomputable def patN (P : Params) : Nat := match (hd.heap_39 P).lookup 42 with | some ⟨_, _, .seq _ n, _⟩ => n | _ => 0
theorem pat_obj (P : Params) : (hd.heap_39 P).lookup 43 = some ⟨.type "re.Pattern", none, .fields (patFs P), #[]⟩ := rfl
theorem pat_tup (P : Params) : (hd.heap_39 P).lookup 42 = some ⟨.type "tuple", none, .seq (patIts P) (patN P), #[]⟩ := rfl
theorem pat_5 (P : Params) : (patFs P).getD 5 .none = .ref 42 := rfl
theorem pat_6 (P : Params) : PySem.Builtin.Re.reRawNat ((patFs P).getD 6 .none) = 0 := rfl
theorem pat_2 (P : Params) : PySem.Builtin.Re.reRawNat ((patFs P).getD 2 .none) = 1 := rfl
theorem pat_code (P : Params) : ((patIts P).map PySem.Builtin.Re.reRawOf).map (·.toNat) = subCode := by kernel_rfl
theorem code_hd {P : Params} {h : Heap} (X : (hd.heap_39 P).In h) : CodeHd h 61 57 := ⟨_, _, _, _, _, _, _, _, _, X 61 _ rfl, rfl, rfl, rfl, rfl, rfl, rfl, rfl, rfl, by decide⟩
/-- the frame's map as one of its own, some of its names said, and how it stands to the old one -/
theorem kstB_same {m : Str → Option Value} {ps : List (Str × Value)} (hk : ∀ p ∈ ps, m p.1 = some p.2) : kstB m ps = m := funext fun _ => kstB_eq hk fun _ => rfl
theorem fr_keep {h₀ h : Heap} {L : Addr} {m : Str → Option Value} (F : Fr h₀ L h m) (ps : List (Str × Value)) (hk : ∀ p ∈ ps, m p.1 = some p.2) : ∃ u, Fr h₀ L h (kstB u ps) ∧ ∀ z, kstB u ps z = m z := ⟨m, by rw [kstB_same hk]; exact F, fun z => by rw [kstB_same hk]⟩
theorem rel_whl {σ : Type} {o : OsState} {h₀ : Heap} {L : Addr} {Led : σ → List (Addr × Obj)} {ps : σ → List (Str × Value)} {stored : List Str} {m₀ u M : Str → Option Value} {P : σ → Prop} {μ : σ → Nat} {Q R : Flow → Shared → Prop} {k : Nat}
    (_h : ∀ f s₂, WhlG o h₀ L Led ps stored m₀ P μ Q k f s₂ → R f s₂) (h : ∀ z, u z = M z) {y : Str} (hM : ∀ z, z ≠ y → stored.contains z = false → M z = m₀ z) : ∀ z, z ≠ y → stored.contains z = false → u z = m₀ z := fun z a b => (h z).trans (hM z a b)
theorem rel_cut {σ : Type} {o : OsState} {h₀ : Heap} {L : Addr} {Led : σ → List (Addr × Obj)} {ps : σ → List (Str × Value)} {stored : List Str} {m₀ u M : Str → Option Value} {P : σ → Prop} {R : Flow → Shared → Prop}
    (_h : ∀ s', MeetAt o h₀ L Led ps stored m₀ P s' → R .next s') (h : ∀ z, u z = M z) {y : Str} (hM : ∀ z, z ≠ y → stored.contains z = false → M z = m₀ z) : ∀ z, z ≠ y → stored.contains z = false → u z = m₀ z := fun z a b => (h z).trans (hM z a b)
theorem all_4 {α : Type} {P : α → Prop} {a b c d : α} (ha : P a) (hb : P b) (hc : P c) (hd : P d) : ∀ p ∈ [a, b, c, d], P p := List.forall_mem_cons.mpr ⟨ha, List.forall_mem_cons.mpr ⟨hb, List.forall_mem_cons.mpr ⟨hc, List.forall_mem_cons.mpr ⟨hd, fun _ h => nomatch h⟩⟩⟩⟩
theorem all_5 {α : Type} {P : α → Prop} {a b c d e : α} (ha : P a) (hb : P b) (hc : P c) (hd : P d) (he : P e) : ∀ p ∈ [a, b, c, d, e], P p := List.forall_mem_cons.mpr ⟨ha, all_4 hb hc hd he⟩
theorem mw_P7_7 : True := by
  (k_with "getMethod ref" => ((with_reducible show wpAny _ _ (getMethod (Value.ref 43) _ _) _ _ _); (k_dflt (refine' subMethod_K ?k1 ?k2 (pat_obj _) ?_; (case k1 => k_asm); (case k2 => k_asm); k_whole))))
  (k_with "getMethod ref" => ((with_reducible show wpAny _ _ (getMethod (Value.ref _) (PySem.Str.ofString "group") _) _ _ _); (k_dflt (refine' groupMethod_K ?k1 ?k2 ?_; (case k1 => k_asm); (case k2 => assumption); k_whole))))
  (k_with "call builtin:re.Match.group" => ((k_dflt (refine' group_K ?k1 ?k2 ?k3 ?k4 ?_; (case k1 => k_asm); (case k2 => assumption); (case k3 => assumption); (case k4 => omega); k_whole)); intro _ _))
  (k_with "eval Lambda" => (refine stuck_at ?_))
  (k_with "Exists" => ((with_reducible show ∃ u h tk, Value.str _ _ = Value.str _ u ∧ _); (refine stuck_at ?_)))
  (k_with "call builtin:re.Pattern.sub" => (refine stuck_at ?_))
  (k_with "eval JoinedStr" => (k_here; k_dflt (refine' fstr_name ?k1 ?k5 ?k6 ?k7 ?k8 ?_ ?k2 ?k3 ?k4; (case k1 => k_asm); (case k2 => rfl); (case k3 => rfl); (case k4 => decide); (case k5 => rfl); (case k6 => decide +kernel); (case k7 => decide +kernel); (case k8 => first | exact le_mil (by with_reducible assumption) | (rw [strLen_append]; exact le_mil1 (by with_reducible assumption)) | (rw [strLen_append]; exact le_mil1 (Nat.le_trans (Txt.slice_le _ _ _) (by with_reducible assumption)))); k_whole); intro _ _ _))
  (k_with "exec Assign cons IfExp" => (refine stuck_at ?_))
  (k_with "call builtin:str.find" => (k_here; k_dflt (first | (refine' find4_some ?k1 ?k2 ?k3 ?k4 ?_; (case k3 => assumption); (case k1 => omega); (case k2 => omega); (case k4 => omega); k_whole) | (refine' find4_none ?k1 ?k2 ?k3 ?k4 ?_; (case k3 => assumption); (case k1 => omega); (case k2 => omega); (case k4 => omega); k_whole))))
  (k_with "call builtin:list.append" => (k_here; k_dflt (refine' app_strs ?k1 ?k2 ?k3 ?k4 ?k5 ?_; (case k1 => k_asm); (case k2 => k_asm); (case k3 => assumption); (case k4 => omega); (case k5 => k_upd); k_whole); intro _ _ _ _))
  (k_with "exec If Name cons cons" => (refine stuck_at ?_))
  (k_with "eval GeneratorExp" => (refine stuck_at ?_))
  (k_with "exec If Compare cons nil" => ((fail_if_success (have : GoOn := by assumption)); (with_reducible show wpAny _ _ (exec (Stmt.If (Expr.Compare (Expr.Subscript (Expr.Subscript _ _ _) _ _) _ _ _) _ _ _) _) _ _ _); (refine stuck_at ?_)))
  (k_with "ite" => ((with_reducible show if ((_ : Int) != _) = true then _ else _); first | (with_reducible refine ine_f (by omega) ?_) | (with_reducible refine ine_t (by omega) ?_)))
  (k_with "ite" => first | (with_reducible refine ite_tt ?_) | (with_reducible refine ite_ff ?_))
  (k_with "exec For Name Call cons nil" => ((fail_if_success (have : GoOn := by assumption)); (refine stuck_at ?_)))
  (k_with "call builtin:str.join" => (refine stuck_at ?_))
  (k_with "Mitem" => (k_here; (with_reducible show wpAny _ _ (subscriptTail _ _ (Value.ref _) (Value.int _ _)) _ _ _); k_dflt (first
  | (refine' item_vals 0 ?k1 ?k2 ?k3 ?k4 ?k5 ?_; (case k1 => k_asm); (case k2 => k_mem); (case k3 => rfl); (case k4 => decide); (case k5 => rfl); k_whole)
  | (refine' item_vals 1 ?k1 ?k2 ?k3 ?k4 ?k5 ?_; (case k1 => k_asm); (case k2 => k_mem); (case k3 => rfl); (case k4 => decide); (case k5 => rfl); k_whole)
  | (refine' item_vals 2 ?k1 ?k2 ?k3 ?k4 ?k5 ?_; (case k1 => k_asm); (case k2 => k_mem); (case k3 => rfl); (case k4 => decide); (case k5 => rfl); k_whole))))
  (k_with "subscriptTail Name Name ref int" => walk_at "Mitem")
  (k_with "subscriptTail Name BinOp ref int" => walk_at "Mitem")
  (k_with "UnrEnd" => (k_dflt (refine' unr_end ?k1 ?k2 ?k3 ?_; (case k1 => k_asm); (case k2 => k_asm); (case k3 => ((rename (_ < _ ∧ _ < _ ∧ _ < _ ∧ _ < _ ∧ AllLt _ _) => hq); exact unr_off hq)))))
  (k_with "subscriptTail" => ((with_reducible show wpAny _ _ (subscriptTail (PySem.Expr.Subscript _ _ _) _ _ _) _ _ _); k_dflt (refine kba_turn (value' := PySem.Expr.Name (PySem.Str.ofString "_") ⟨0, 0, 0, 0⟩) (fun _ => rfl) ?_)))
  trivial
theorem translate_does (w : World) (mean : ExcName → Option Value) (mg mb : Str → Option Value) (rest : List (Addr × Obj)) (tb : Array Value) (x : Str) (t u : Tok) (hx : x.length ≤ 100000) (h57 : ∀ q ∈ rest, q.1 ≠ 57)
  (fin : List (Option Str)) (htr : trF x (x.length + 1) 0 [] = some fin) (hT : TabOk posL (Str.ofString "_translate.<locals>.<lambda>") rest tb) :
  DoesG PySem.Challenge.rw_rx0110_02.row.prog w (hd.heap_39 w.params) topProg (looseW hd.view_39 [Str.ofString "_twin_re_1", Str.ofString "_special_chars_map"] ++ (recsOf hd.view_39).map (fun x => x.name) ++ (litsOf hd.view_39).map (fun x => x.1) ++ (clssOf hd.view_39 (looseW hd.view_39 [Str.ofString "_twin_re_1", Str.ofString "_special_chars_map"])).map (fun x => x.name)) mean mg mb 62 3 ((57, tabObj tb) :: rest) [Value.str x t, .none, .str "?" u]
    (fun n r => ∃ D vs tb' ex, r = .ref D ∧ n = (D, listOf vs.toArray vs.length) :: (57, tabObj tb') :: (ex ++ rest) ∧ OutAre vs fin ∧ TabOk posL (Str.ofString "_translate.<locals>.<lambda>") (ex ++ rest) tb' ∧ (∀ q ∈ ex, q.1 ≠ 57 ∧ q.1 ≠ D) ∧ D ≠ 57 ∧ ∀ q ∈ rest, q.1 ≠ D) := by
  k_fill
  unfold DoesG
  intro dp un gd cn cs a ccd cl outer A₀ base h₀ L m s oo Q E B F X N T hk hd hu hBB hret
  refine wpAny_call ?_
  (k_dflt cell_enter)
  k_steps
  · rename_i g1 L1 hh1 FG1 B1 X1 T1 tk0 hk0 D hh2 l1 hh3 tk2 hk2 Bn hh4 l2 hh5 tk3 hk3 Tp hh6 l3 hh7 hh8 hh9 F1 N1 tk4 hk4
    unfold Stuck
    refine whileG (σ := TrS) (fun c => (57, tabObj c.tb) :: (D, listOf c.vs.toArray c.vs.length) :: (Bn, bndApp D) :: (c.ex ++ rest)) (fun c => [(Str.ofString "i", .int (c.i : Int) c.ti)])
      [Str.ofString "c", Str.ofString "j", Str.ofString "stuff", Str.ofString "chunks", Str.ofString "k", Str.ofString "chunk"] (TrOk x rest D Bn fin) (fun c => c.fuel) ⟨0, _, [], tb, [], x.length + 1, []⟩ F1 (by walk_at "Mdrop")
      (List.forall_mem_cons.mpr ⟨rfl, fun _ h => nomatch h⟩) ⟨Nat.zero_le _, .nil, Nat.le_refl _, hT, htr, fun _ h => nomatch h⟩ ?_
    intro c U s1 htA hP F2 N2 R9 hR9
    obtain ⟨i, ti, vs, tb, ex, fuel, out⟩ := c
    refine Classical.byContradiction fun hng9 => ?_
    obtain ⟨hi, hO, hol, hT, hf, hex⟩ := hP
    refine hng9 ?_
    clear hng9
    rcases fuel with _ | fuel
    · cases hf
    dsimp only at hi hO hol hT hf hex F2 N2 ⊢
    have hn57 : ∀ q ∈ ex ++ rest, q.1 ≠ 57 := ne_app (fun q hq => (hex q hq).1) h57
    have hnD : ∀ q ∈ ex ++ rest, q.1 ≠ D := ne_app (fun q hq => (hex q hq).2.1) (allLt_ne l1.2)
    have hnB : ∀ q ∈ ex ++ rest, q.1 ≠ Bn := ne_app (fun q hq => (hex q hq).2.2) (allLt_ne l2.2.2)
    have hvl := hO.len
    (k_unmd)
    k_steps
    · -- a star
      have hf2 := trF_star hf (by first | with_reducible assumption | assumption) (by first | with_reducible assumption | assumption)
      unfold Stuck
      rcases out_cases hO with ⟨rfl, rfl⟩ | ⟨ws, os, rfl, rfl, hO'⟩ | ⟨ws, os, y, k, rfl, rfl, hO'⟩
      · walk_at "exec If"
        (k_unmd)
        k_steps
        refine hR9 _ _ ?_
        refine tr_go (i + 1) _ [.none] tb ex fuel [none] (by first | with_reducible assumption | assumption) (by first | with_reducible assumption | assumption) (by simp) (by simp) rfl (by omega) ?_ (by omega) (.star .nil) (by simp) hT (by simpa using hf2) hex (Nat.lt_succ_self _)
        (intro z hz hp9; simp only [List.contains_cons, List.contains_nil, Bool.or_eq_false_iff, beq_eq_false_iff_ne, ne_eq] at hp9; (dsimp only [kstB]; repeat (first | rfl | (refine (if_neg (by simp [hz, hp9])).trans ?_))))
      · have hb : ws.length ≤ 1000000 := by simp at hvl hol; omega
        walk_at "exec If"
        (k_unmd)
        k_steps
        refine hR9 _ _ ?_
        refine tr_go (i + 1) _ (ws ++ [.none]) tb ex fuel (os ++ [none]) (by first | with_reducible assumption | assumption) (by first | with_reducible assumption | assumption) (by simp) (by simp) rfl (by omega) ?_ (by omega) hO'.snocS (by simp at hol ⊢; omega) hT (by simpa using hf2) hex (Nat.lt_succ_self _)
        (intro z hz hp9; simp only [List.contains_cons, List.contains_nil, Bool.or_eq_false_iff, beq_eq_false_iff_ne, ne_eq] at hp9; (dsimp only [kstB]; repeat (first | rfl | (refine (if_neg (by simp [hz, hp9])).trans ?_))))
      · have hb : ws.length ≤ 1000000 := by simp at hvl hol; omega
        walk_at "exec If"
        (k_unmd)
        k_steps
        refine hR9 _ _ ?_
        refine tr_go (i + 1) _ (ws ++ [.str y k] ++ [.none]) tb ex fuel (os ++ [some y] ++ [none]) (by first | with_reducible assumption | assumption) (by first | with_reducible assumption | assumption) (by simp) (by simp) rfl (by omega) ?_ (by omega) (hO'.snocT.snocS) (by simp at hol ⊢; omega) hT (by simpa using hf2) hex (Nat.lt_succ_self _)
        (intro z hz hp9; simp only [List.contains_cons, List.contains_nil, Bool.or_eq_false_iff, beq_eq_false_iff_ne, ne_eq] at hp9; (dsimp only [kstB]; repeat (first | rfl | (refine (if_neg (by simp [hz, hp9])).trans ?_))))
    · have hf2 := trF_q hf (by first | with_reducible assumption | assumption) (by first | with_reducible assumption | assumption) (by first | with_reducible assumption | assumption)
      refine hR9 _ _ ?_
      refine tr_go (i + 1) _ (vs ++ [.str (Str.ofString "?") u]) tb ex fuel _ (by first | with_reducible assumption | assumption) (by first | with_reducible assumption | assumption) (by simp) (by simp) rfl (by omega) ?_ (by omega) hO.snocT (by simp; omega) hT hf2 hex (Nat.lt_succ_self _)
      (intro z hz hp9; simp only [List.contains_cons, List.contains_nil, Bool.or_eq_false_iff, beq_eq_false_iff_ne, ne_eq] at hp9; (dsimp only [kstB]; repeat (first | rfl | (refine (if_neg (by simp [hz, hp9])).trans ?_))))
    · have hf3 := trF_open hf (by first | with_reducible assumption | assumption) (by first | with_reducible assumption | assumption) (by first | with_reducible assumption | assumption) (by first | with_reducible assumption | assumption)
      unfold Stuck
      refine cut_at (σ := Nat × Tok) (by first | with_reducible assumption | assumption) (fun _ => (57, tabObj tb) :: (D, listOf vs.toArray vs.length) :: (Bn, bndApp D) :: (ex ++ rest)) (fun c => [(Str.ofString "j", .int (c.1 : Int) c.2)]) [] (fun c => c.1 = jB x (i + 1)) ?_ ?_
      · intro Rc hC9
        walk_at "exec If"
        (k_unmd)
        k_steps
        · refine hC9 _ ?_
          refine meetJ (i + 1 + 1) (by first | with_reducible assumption | assumption) (by first | with_reducible assumption | assumption) (fun _ h => h) rfl (by omega) (by intro z hz; simp [hz]) ?_
          exact (jB_yes (by first | with_reducible assumption | assumption) (by first | with_reducible assumption | assumption)).symm
        · refine hC9 _ ?_
          refine meetJ (i + 1) (by first | with_reducible assumption | assumption) (by first | with_reducible assumption | assumption) (fun _ h => h) rfl (by omega) (by intro z hz; simp [hz]) ?_
          exact (jB_no (by first | with_reducible assumption | assumption)).symm
        · refine hC9 _ ?_
          refine meetJ (i + 1) (by first | with_reducible assumption | assumption) (by first | with_reducible assumption | assumption) (fun _ h => h) rfl (by omega) (by intro z hz; simp [hz]) ?_
          exact (jB_ge (by first | with_reducible assumption | assumption)).symm
      intro c U2 s2 htB hP2 F3 N3
      obtain ⟨j, tj⟩ := c
      dsimp only at hP2 F3 N3
      have hj1 := jB_le (x := x) (i := i + 1) (by omega)
      rw [← hP2] at hj1
      (try k_unmd)
      (try k_fold)
      k_steps
      unfold Stuck
      refine cut_at (σ := Nat × Tok) (by first | with_reducible assumption | assumption) (fun _ => (57, tabObj tb) :: (D, listOf vs.toArray vs.length) :: (Bn, bndApp D) :: (ex ++ rest)) (fun c => [(Str.ofString "j", .int (c.1 : Int) c.2)]) [] (fun c => c.1 = jC x j) ?_ ?_
      · intro Rc hC9
        walk_at "exec If"
        (k_unmd)
        k_steps
        · refine hC9 _ ?_
          refine meetJ (j + 1) (by first | with_reducible assumption | assumption) (by first | with_reducible assumption | assumption) (fun _ h => h) rfl (by omega) (by intro z hz; simp [hz]) ?_
          exact (jC_yes (by first | with_reducible assumption | assumption) (by first | with_reducible assumption | assumption)).symm
        · refine hC9 _ ?_
          refine meetJ j (by first | with_reducible assumption | assumption) (by first | with_reducible assumption | assumption) (fun _ h => h) rfl (by omega) (by intro z hz; simp [hz]) ?_
          exact (jC_no (by first | with_reducible assumption | assumption)).symm
        · refine hC9 _ ?_
          refine meetJ j (by first | with_reducible assumption | assumption) (by first | with_reducible assumption | assumption) (fun _ h => h) rfl (by omega) (by intro z hz; simp [hz]) ?_
          exact (jC_ge (by first | with_reducible assumption | assumption)).symm
      intro c U3 s3 htC hP3 F4 N4
      obtain ⟨j2, tj2⟩ := c
      dsimp only at hP3 F4 N4
      have hj2 := jC_le (x := x) (i := j) (by omega)
      rw [← hP3] at hj2
      (try k_unmd)
      (try k_fold)
      k_steps
      unfold Stuck
      refine cut_at (σ := Nat × Tok) (by first | with_reducible assumption | assumption) (fun _ => (57, tabObj tb) :: (D, listOf vs.toArray vs.length) :: (Bn, bndApp D) :: (ex ++ rest)) (fun c => [(Str.ofString "j", .int (c.1 : Int) c.2)]) [] (fun c => c.1 = jFrom x (i + 1) ∧ j2 ≤ c.1 ∧ c.1 ≤ x.length) ?_ ?_
      · intro Rc hC9
        refine whileG (σ := Nat × Tok) (fun _ => (57, tabObj tb) :: (D, listOf vs.toArray vs.length) :: (Bn, bndApp D) :: (ex ++ rest)) (fun c => [(Str.ofString "j", .int (c.1 : Int) c.2)]) [] (fun c => jScan x (x.length - c.1) c.1 = jFrom x (i + 1) ∧ j2 ≤ c.1 ∧ c.1 ≤ x.length) (fun c => x.length - c.1) ⟨j2, tj2⟩ (by first | with_reducible assumption | assumption) (by first | with_reducible assumption | assumption)
          (List.forall_mem_cons.mpr ⟨rfl, fun _ h => nomatch h⟩) ⟨by rw [hP3, hP2]; rfl, Nat.le_refl _, hj2.2⟩ ?_
        intro c U4 s4 htD hP4 F5 N5 R9 hR9
        obtain ⟨j3, tj3⟩ := c
        refine Classical.byContradiction fun hng9 => ?_
        obtain ⟨hP4, hle, hj3⟩ := hP4
        refine hng9 ?_
        clear hng9
        dsimp only at hP4 hle hj3 F5 N5 ⊢
        (try k_unmd)
        (try k_fold)
        k_steps
        · refine hR9 _ _ ?_
          refine meetJ (P := fun c : Nat × Tok => (jScan x (x.length - c.1) c.1 = jFrom x (i + 1) ∧ j2 ≤ c.1 ∧ c.1 ≤ x.length) ∧ x.length - c.1 < x.length - j3) (j3 + 1) (by first | with_reducible assumption | assumption) (by first | with_reducible assumption | assumption) (fun _ h => h) rfl (by omega) (by intro z hz; (dsimp only [kstB]; repeat (first | rfl | (refine (if_neg (by simp [hz])).trans ?_)))) ?_
          exact ⟨⟨(jScan_onB (j := j3) (by first | with_reducible assumption | assumption) (by first | with_reducible assumption | assumption)).symm.trans hP4, by dsimp only; omega, by dsimp only; omega⟩, by dsimp only; omega⟩
        · refine hC9 _ ?_
          exact meetJ j3 (by first | with_reducible assumption | assumption) (by first | with_reducible assumption | assumption) (fun _ h => h) rfl rfl (by intro z hz; (dsimp only [kstB]; repeat (first | rfl | (refine (if_neg (by simp [hz])).trans ?_)))) ⟨(jScan_stopB (j := j3) (by first | with_reducible assumption | assumption)).symm.trans hP4, hle, hj3⟩
        · refine hC9 _ ?_
          exact meetJ j3 (by first | with_reducible assumption | assumption) (by first | with_reducible assumption | assumption) (fun _ h => h) rfl rfl (by intro z hz; (dsimp only [kstB]; repeat (first | rfl | (refine (if_neg (by simp [hz])).trans ?_)))) ⟨(jScan_ge (j := j3) (by first | with_reducible assumption | assumption)).symm.trans hP4, hle, hj3⟩
      intro c U5 s5 htE hP5 F6 N6
      obtain ⟨jj, tjj⟩ := c
      dsimp only at hP5 F6 N6
      refine Classical.byContradiction fun hng9 => ?_
      obtain ⟨hP5, hle5, hjj⟩ := hP5
      refine hng9 ?_
      clear hng9
      (try k_unmd)
      (try k_fold)
      k_steps
      · rw [if_neg (by omega)] at hf3
        refine hR9 _ _ ?_
        refine tr_go (i + 1) _ (vs ++ [.str (Str.ofString "\\[") _]) tb ex fuel _ (by first | with_reducible assumption | assumption) (by first | with_reducible assumption | assumption) (by simp; rfl) (by simp) rfl (by omega) ?_ (by omega) hO.snocT (by simp; omega) hT hf3 hex (Nat.lt_succ_self _)
        (intro z hz hp9; simp only [List.contains_cons, List.contains_nil, Bool.or_eq_false_iff, beq_eq_false_iff_ne, ne_eq] at hp9; (dsimp only [kstB]; repeat (first | rfl | (refine (if_neg (by simp [hz, hp9])).trans ?_))))
      unfold Stuck
      rw [if_pos (by omega), ← hP5] at hf3
      refine Classical.byContradiction fun hng9 => ?_
      obtain ⟨y0, z0, hpre, hsub, hf4⟩ := pre_of hf3
      refine hng9 ?_
      clear hng9
      rename (Fr _ _ _ _) => FA0
      refine (fr_keep FA0 [(Str.ofString "pat", _), (Str.ofString "add", _), (Str.ofString "i", _), (Str.ofString "j", _), (Str.ofString "stuff", _)] (all_5 rfl rfl rfl rfl rfl)).elim fun uA hA9 => ?_
      refine Classical.byContradiction fun hng9 => ?_
      obtain ⟨FA, hrA⟩ := hA9
      refine hng9 ?_
      clear hng9
      have hrelA := rel_whl (y := Str.ofString "i") hR9 hrA (by intro z hz hp9; simp only [List.contains_cons, List.contains_nil, Bool.or_eq_false_iff, beq_eq_false_iff_ne, ne_eq] at hp9; (dsimp only [kstB]; repeat (first | rfl | (refine (if_neg (by simp [hz, hp9])).trans ?_))))
      (clear hrA FA0); (try clear F3); (try clear F4); (try clear F6)
      (try dsimp only at FA hrelA)
      refine cut_at (σ := StS) (by first | with_reducible assumption | assumption) (fun c => (57, tabObj c.tb) :: (D, listOf vs.toArray vs.length) :: (Bn, bndApp D) :: (c.ex ++ rest)) (fun c => [(Str.ofString "stuff", .str y0 c.t)])
        [Str.ofString "i", Str.ofString "k", Str.ofString "chunks", Str.ofString "chunk"] (fun c => TabOk posL (Str.ofString "_translate.<locals>.<lambda>") (c.ex ++ rest) c.tb ∧ ∀ q ∈ c.ex, q.1 ≠ 57 ∧ q.1 ≠ D ∧ q.1 ≠ Bn) ?_ ?_
      · intro Rc hC9
        cases hdash : Txt.contains (Txt.slice x (some ((i + 1 : Nat) : Int)) (some (jj : Int))) (Str.ofString "-") with
        | false =>
          have hy0 := pre_plain hpre hdash
          have hsl : (Txt.slice x (some ((i : Int) + 1)) (some (jj : Int))).length ≤ 100000 := Nat.le_trans (Txt.slice_le _ _ _) hx
          have hdash' : Txt.contains (Txt.slice x (some ((i : Int) + 1)) (some (jj : Int))) (Str.ofString "-") = false := hdash
          have hocc : (Builtin.Str.occurrences (Txt.slice x (some ((i : Int) + 1)) (some (jj : Int))) (Str.ofString "-") 0 (Txt.slice x (some ((i : Int) + 1)) (some (jj : Int))).length 1).isEmpty = true := by simpa [Txt.contains] using hdash'
          walk_at "exec If"
          (k_unmd)
          k_steps
          refine hC9 _ ?_
          refine meetS tb ex (by first | with_reducible assumption | assumption) (by first | with_reducible assumption | assumption) (fun p hp => by first | exact hp | exact .tail _ hp | exact .tail _ (.tail _ hp)) rfl hy0.symm ?_ ⟨hT, hex⟩
          (intro z hz hp9; simp only [List.contains_cons, List.contains_nil, Bool.or_eq_false_iff, beq_eq_false_iff_ne, ne_eq] at hp9; (dsimp only [kstB]; repeat (first | rfl | (refine (if_neg (by simp [hz, hp9])).trans ?_))))
        | true =>
          have hdf := pre_dash hpre hdash
          have hdash' : Txt.contains (Txt.slice x (some ((i : Int) + 1)) (some (jj : Int))) (Str.ofString "-") = true := hdash
          have hocc : (Builtin.Str.occurrences (Txt.slice x (some ((i : Int) + 1)) (some (jj : Int))) (Str.ofString "-") 0 (Txt.slice x (some ((i : Int) + 1)) (some (jj : Int))).length 1).isEmpty = false := by simpa [Txt.contains] using hdash'
          walk_at "exec If"
          (k_unmd)
          k_steps
          rename_i C hhA lC hhB FC NC tkC hkC
          refine Classical.byContradiction fun hng9 => ?_
          obtain ⟨iF, csF, cs2, cs3, hch, hadd, hlast, hmer, hy0⟩ := dash_of hdf
          refine hng9 ?_
          clear hng9
          clear hdf hdash hdash' hocc hpre
          unfold Stuck
          refine cut_at (σ := Nat × Tok) FC (fun _ => (C, listOf #[] 0) :: (57, tabObj tb) :: (D, listOf vs.toArray vs.length) :: (Bn, bndApp D) :: (ex ++ rest)) (fun c => [(Str.ofString "k", .int (c.1 : Int) c.2)]) [] (fun c => c.1 = if isAt x (i + 1) "!" then i + 1 + 2 else i + 1 + 1) ?_ ?_
          · intro Rc hC9
            walk_at "exec Assign"
            (k_unmd)
            k_steps
            · refine hC9 _ ?_
              exact meetN (i + 1 + 2) (by first | with_reducible assumption | assumption) (by first | with_reducible assumption | assumption) (fun _ h => h) rfl (by omega) (by intro z hz; (dsimp only [kstB]; repeat (first | rfl | (refine (if_neg (by simp [hz])).trans ?_)))) (kF_yes (by first | with_reducible assumption | assumption))
            · refine hC9 _ ?_
              exact meetN (i + 1 + 1) (by first | with_reducible assumption | assumption) (by first | with_reducible assumption | assumption) (fun _ h => h) rfl (by omega) (by intro z hz; (dsimp only [kstB]; repeat (first | rfl | (refine (if_neg (by simp [hz])).trans ?_)))) (kF_no (by first | with_reducible assumption | assumption))
          intro c U7 s7 htG hP7 F12 N12
          obtain ⟨k0, tk0⟩ := c
          dsimp only at htG hP7 F12 N12
          (try k_unmd)
          (try k_fold)
          k_steps
          unfold Stuck
          rw [← hP7] at hch
          refine cut_at (σ := ChS) (by first | with_reducible assumption | assumption) (fun c => (C, listOf c.vs.toArray c.n) :: (57, tabObj tb) :: (D, listOf vs.toArray vs.length) :: (Bn, bndApp D) :: (ex ++ rest)) (fun c => [(Str.ofString "i", .int (c.i : Int) c.ti)]) [Str.ofString "k"] (fun c => StrsAre c.vs c.cs ∧ c.cs.length ≤ c.i ∧ c.i ≤ jj ∧ (∀ y ∈ c.cs, y.length ≤ 100000) ∧ c.i = iF ∧ c.cs = csF) ?_ ?_
          · intro Rc hC9
            refine whileG (σ := ChS) (fun c => (C, listOf c.vs.toArray c.n) :: (57, tabObj tb) :: (D, listOf vs.toArray vs.length) :: (Bn, bndApp D) :: (ex ++ rest)) (fun c => [(Str.ofString "i", .int (c.i : Int) c.ti), (Str.ofString "k", .int (c.k : Int) c.tk)]) [] (fun c => StrsAre c.vs c.cs ∧ c.cs.length ≤ c.i ∧ c.i ≤ jj ∧ (∀ y ∈ c.cs, y.length ≤ 100000) ∧ chunkF x jj c.fuel c.i c.k c.cs = some (iF, csF)) (fun c => c.fuel) ⟨i + 1, _, k0, tk0, [], [], 0, x.length⟩ (by first | with_reducible assumption | assumption) (by first | with_reducible assumption | assumption)
              (List.forall_mem_cons.mpr ⟨rfl, List.forall_mem_cons.mpr ⟨rfl, fun _ h => nomatch h⟩⟩) ⟨.nil, Nat.zero_le _, by dsimp only; omega, (fun _ h => nomatch h), hch⟩ ?_
            intro c U8 s8 htH hP8 F13 N13 R9 hR9
            obtain ⟨i8, ti8, k8, tk8, vs8, cs8, n8, fuel8⟩ := c
            refine Classical.byContradiction fun hng9 => ?_
            obtain ⟨hS8, hl8, hi8, hb8, hch8⟩ := hP8
            refine hng9 ?_
            clear hng9
            dsimp only at hS8 hl8 hi8 hb8 hch8 F13 N13 ⊢
            rcases fuel8 with _ | fuel8
            · cases hch8
            cases hoc : PySem.Builtin.Str.occurrences x (Str.ofString "-") k8 jj 1 with
            | nil =>
              have he := chunk_end hch8 hoc
              (try k_unmd)
              (try k_fold)
              k_steps
              refine hR9 _ _ (hC9 _ ?_)
              exact meetC2 i8 vs8 cs8 n8 (by first | with_reducible assumption | assumption) (by first | with_reducible assumption | assumption) (fun _ h => h) rfl rfl (by intro z hz1 hz2; (dsimp only [kstB]; repeat (first | rfl | (refine (if_neg (by simp [hz1, hz2])).trans ?_)))) ⟨hS8, hl8, hi8, hb8, (congrArg (·.1) he).symm, (congrArg (·.2) he).symm⟩
            | cons k9 r9 =>
              refine Classical.byContradiction fun hng9 => ?_
              obtain ⟨h91, h92, h93⟩ := chunk_step hch8 hoc
              refine hng9 ?_
              clear hng9
              (try k_unmd)
              (try k_fold)
              k_steps
              refine hR9 _ _ ?_
              refine whl_next (meetC (k9 + 1) (k9 + 3) (vs8 ++ [.str (Txt.slice x (some (i8 : Int)) (some (k9 : Int))) _]) (cs8 ++ [Txt.slice x (some (i8 : Int)) (some (k9 : Int))]) (n8 + 1) fuel8 (by first | with_reducible assumption | assumption) (by first | with_reducible assumption | assumption) (fun _ h => h) rfl (by omega) rfl (by omega) (by intro z hz1 hz2; (dsimp only [kstB]; repeat (first | rfl | (refine (if_neg (by simp [hz1, hz2])).trans ?_))))
                ⟨⟨by assumption, by simp; omega, by dsimp only; omega, ?_, h93⟩, Nat.lt_succ_self _⟩)
              intro y hy
              rcases List.mem_append.mp hy with hy | hy
              · exact hb8 y hy
              · rw [List.mem_singleton.mp hy]; exact Nat.le_trans (Txt.slice_le _ _ _) hx
          intro c U9 s9 htI hP9 F14 N14
          obtain ⟨iC, tiC, _, _, vsC, csC, nC, _⟩ := c
          refine Classical.byContradiction fun hng9 => ?_
          obtain ⟨hSC, hlC, hiC, hbC, rfl, rfl⟩ := hP9
          refine hng9 ?_
          clear hng9
          dsimp only at hSC hlC hiC hbC F14 N14 hch hadd hlast
          refine (fr_keep F14 [(Str.ofString "pat", _), (Str.ofString "i", _), (Str.ofString "j", _), (Str.ofString "chunks", _)] (all_4 rfl rfl rfl rfl)).elim fun uB hB9 => ?_
          refine Classical.byContradiction fun hng9 => ?_
          obtain ⟨FB, hrB⟩ := hB9
          refine hng9 ?_
          clear hng9
          have hrelB := rel_cut (y := Str.ofString "stuff") hC9 hrB (by intro z hz hp9; simp only [List.contains_cons, List.contains_nil, Bool.or_eq_false_iff, beq_eq_false_iff_ne, ne_eq] at hp9; (dsimp only [kstB]; repeat (first | rfl | (refine (if_neg (by simp [hz, hp9])).trans ?_))))
          (clear hrB F14); (try clear F12); (try clear FC)
          (try dsimp only at FB hrelB)
          (try k_unmd)
          (try k_fold)
          k_steps
          unfold Stuck
          have hb2 : ∀ y ∈ cs2, y.length ≤ 100001 := by
            intro y hy
            by_cases hcl : (Txt.slice x (some (iC : Int)) (some (jj : Int))).length = 0
            · obtain ⟨l9, e1, e2⟩ := hlast hcl
              subst e1 e2
              have h9 := hbC l9 (.head _)
              have h8 : (Str.ofString "-").length = 1 := rfl
              rw [List.mem_singleton.mp hy, strLen_append, h8]
              omega
            · rw [hadd hcl] at hy
              rcases List.mem_append.mp hy with hy | hy
              · have := hbC y hy; omega
              · rw [List.mem_singleton.mp hy]; exact Nat.le_succ_of_le (Nat.le_trans (Txt.slice_le _ _ _) hx)
          refine cut_at (σ := CkS) (by first | with_reducible assumption | assumption) (fun c => (C, listOf c.vs.toArray c.n) :: (57, tabObj tb) :: (D, listOf vs.toArray vs.length) :: (Bn, bndApp D) :: (ex ++ rest)) (fun _ => []) [] (fun c => StrsAre c.vs cs2) ?_ ?_
          · intro Rc hC9
            by_cases hcl : (Txt.slice x (some (iC : Int)) (some (jj : Int))).length = 0
            · obtain ⟨l9, e1, e2⟩ := hlast hcl
              subst e1 e2
              obtain ⟨t9, rfl⟩ := strs_1 hSC
              have hb9 := hbC l9 (.head _)
              have hcl' : ((Txt.slice x (some (iC : Int)) (some (jj : Int))).length : Int) = 0 := by omega
              walk_at "exec If"
              (k_unmd)
              k_steps
              refine hC9 _ ?_
              exact meetK2 [.str (l9 ++ Str.ofString "-") _] nC (by first | with_reducible assumption | assumption) (by first | with_reducible assumption | assumption) (fun _ h => h) (fun _ _ => rfl) (.cons _ _ .nil)
            · have e2 := hadd hcl
              subst e2
              have hcl' : ((Txt.slice x (some (iC : Int)) (some (jj : Int))).length : Int) ≠ 0 := by omega
              walk_at "exec If"
              (k_unmd)
              k_steps
              refine hC9 _ ?_
              exact meetK2 (vsC ++ [.str (Txt.slice x (some (iC : Int)) (some (jj : Int))) _]) (nC + 1) (by first | with_reducible assumption | assumption) (by first | with_reducible assumption | assumption) (fun _ h => h) (fun _ _ => rfl) (by first | with_reducible assumption | assumption)
          intro c U10 s10 htJ hPA F15 N15
          obtain ⟨vs10, n10⟩ := c
          dsimp only at hPA F15 N15
          have hml := merge_len hmer hb2
          (try k_unmd)
          (try k_fold)
          k_steps
          unfold Stuck
          refine cut_at (σ := CkS) (by first | with_reducible assumption | assumption) (fun c => (C, listOf c.vs.toArray c.n) :: (57, tabObj tb) :: (D, listOf vs.toArray vs.length) :: (Bn, bndApp D) :: (ex ++ rest)) (fun _ => []) [Str.ofString "k"] (fun c => StrsAre c.vs cs3) ?_ ?_
          · intro Rc hC9
            rcases merge_of hmer with ⟨a9, rfl, rfl⟩ | ⟨a9, b9, rfl, ha9, hb9, hc3⟩ | ⟨a9, b9, c9, rfl, ha9, hb9, hc9, hf1, hd9, hf2, rfl⟩
            · obtain ⟨t9, rfl⟩ := strs_1 hPA
              have h19 := hb2 a9 (.head _)
              have hgo := goOn
              k_steps
              refine hC9 _ ?_
              exact meetK2 [.str a9 t9] n10 (by first | with_reducible assumption | assumption) (by first | with_reducible assumption | assumption) (fun _ h => h) (fun _ _ => rfl) hPA
            · obtain ⟨t9, u9, rfl⟩ := strs_2 hPA
              have h19 := hb2 a9 (.head _)
              have h29 := hb2 b9 (.tail _ (.head _))
              have hgo := goOn
              k_steps
              · rw [y_fall (by first | with_reducible assumption | assumption), if_pos rfl] at hc3
                subst hc3
                refine hC9 _ ?_
                exact meetK2 _ _ (by first | with_reducible assumption | assumption) (by first | with_reducible assumption | assumption) (fun _ h => h) (by intro z hz; simp at hz; simp [hz]) (.cons _ _ .nil)
              · rw [n_fall (by first | with_reducible assumption | assumption), if_neg Bool.false_ne_true] at hc3
                subst hc3
                refine hC9 _ ?_
                exact meetK2 _ _ (by first | with_reducible assumption | assumption) (by first | with_reducible assumption | assumption) (fun _ h => h) (by intro z hz; simp at hz; simp [hz]) hPA
            · obtain ⟨t9, u9, v9, rfl⟩ := strs_3 hPA
              have h19 := hb2 a9 (.head _)
              have h29 := hb2 b9 (.tail _ (.head _))
              have h39 := hb2 c9 (.tail _ (.tail _ (.head _)))
              have hf1' := fall_y hf1
              have hf2' := fall_n hf2
              have hgo := goOn
              k_steps
              refine hC9 _ ?_
              exact meetK2 _ _ (by first | with_reducible assumption | assumption) (by first | with_reducible assumption | assumption) (fun _ h => h) (by intro z hz; simp at hz; simp [hz]) (.cons _ _ (.cons _ _ .nil))
          intro c U11 s11 htK hPB F16 N16
          obtain ⟨vs11, n11⟩ := c
          dsimp only at hPB F16 N16
          (try k_unmd)
          (try k_fold)
          k_steps
          unfold Stuck
          refine gen_KT (D := C) (vs := vs11) (xs := cs3) (f := rep2) (by first | with_reducible assumption | assumption) (by first | with_reducible assumption | assumption) T1 (code_hd X1) rfl rfl (updF_2 (Nat.ne_of_gt lC.1) ?_) hT.tri rfl rfl rfl (by decide) rfl rfl rfl ?_ (fun _ => rfl) ?_ (lst_at (by first | with_reducible assumption | assumption) (.head _)) hPB ?_ ?_
          · intro q hq
            rcases List.mem_cons.mp hq with rfl | hq
            · exact Nat.ne_of_gt l1.1
            · rcases List.mem_cons.mp hq with rfl | hq
              · exact Nat.ne_of_gt l2.2.1
              · exact hn57 q hq
          · exact Nat.lt_of_le_of_lt (Nat.le_of_eq (rfl : _ = dp + 1)) (by omega)
          · intro Q' hQ'
            walk1
            exact hQ'
          · intro C9 code9 A9 E9 y9 t9 s9' m9 hh9' hy9 h09 hn9 hm9
            have hly := hml.2 y9 hy9
            exact elt_does hly h09 hn9 hm9
          · intro a9 s9' tb9 htb htri B17 F17 N17 X17
            have hB17 := B17 oo (by first | with_reducible assumption | exact And.right (by with_reducible assumption) | assumption | exact And.right (by assumption))
            (try k_unmd)
            (try k_fold)
            k_steps
            unfold Stuck
            refine' join_gen_K ?k1 ?k2 X17 ?k4 ?k5 ?_
            (case k1 => k_asm)
            (case k2 => k_asm)
            (case k4 => exact join_ok hml)
            (case k5 => (rw [sizeLine_eq]; omega))
            intro s13 t13 B18 F18 N18
            have hB18 := B18 oo (by first | with_reducible assumption | exact And.right (by with_reducible assumption) | assumption | exact And.right (by assumption))
            (try k_unmd)
            (try k_fold)
            k_steps
            refine hC9 _ ?_
            refine meetS tb9 ex (by first | with_reducible assumption | assumption) (by first | with_reducible assumption | assumption) (fun p hp => .tail _ hp) rfl hy0.symm ?_ ⟨?_, hex⟩
            · (intro z hz hp9; have hp8 := hp9; simp only [List.contains_cons, List.contains_nil, Bool.or_eq_false_iff, beq_eq_false_iff_ne, ne_eq] at hp9; dsimp only [kstB]; (repeat (refine (if_neg (by simp [hz, hp9])).trans ?_)); exact hrelB z hz hp8)
            · rcases htb with rfl | ⟨c9, _, rfl⟩
              · exact hT
              · exact hT.other (by decide)
      intro c U6 s6 htF hP6 F7 N7
      obtain ⟨t6, tb6, ex6⟩ := c
      refine Classical.byContradiction fun hng9 => ?_
      obtain ⟨hT6, hex6⟩ := hP6
      refine hng9 ?_
      clear hng9
      dsimp only at hT6 hex6 F7 N7
      (try k_unmd)
      (try k_fold)
      k_steps
      unfold Stuck
      have hn6 : ∀ q ∈ [(D, listOf vs.toArray vs.length), (Bn, bndApp D)] ++ (ex6 ++ rest), q.1 ≠ 57 := fun q hq => by
        rcases List.mem_append.mp hq with hq | hq
        · rcases List.mem_cons.mp hq with rfl | hq
          · exact Nat.ne_of_gt l1.1
          · rw [List.mem_singleton.mp hq]; exact Nat.ne_of_gt l2.2.1
        · exact ne_app (fun q hq => (hex6 q hq).1) h57 q hq
      refine kla_eval rfl (lam_K (mid := [(D, listOf vs.toArray vs.length), (Bn, bndApp D)]) (ex := ex6) (rest := rest) (by first | with_reducible assumption | assumption) (by first | with_reducible assumption | assumption) hn6 T1 (code_hd X1) rfl hT6 rfl fun f c' oc vs9 t9 ct' h9 tk9 tb7 ex7 F8 N8 hT7 hx7 hc7 hd7 hv7 hlt7 => ?_)
      simp only [List.cons_append, List.nil_append] at N8
      (try k_unmd)
      (try k_fold)
      k_steps
      unfold Stuck
      have hex7 : ∀ q ∈ ex7, q.1 ≠ 57 ∧ q.1 ≠ D ∧ q.1 ≠ Bn := fun q hq => by
        rcases hx7 q hq with h | h
        · exact hex6 q h
        · exact ⟨Nat.ne_of_gt (h _ (.head _)), Nat.ne_of_gt (h _ (.tail _ (.head _))), Nat.ne_of_gt (h _ (.tail _ (.tail _ (.head _))))⟩
      have hn7D : ∀ q ∈ ex7 ++ rest, q.1 ≠ D := ne_app (fun q hq => (hex7 q hq).2.1) (allLt_ne l1.2)
      refine Classical.byContradiction fun hng9 => ?_
      obtain ⟨hy1, l, hgo, hls, hz0⟩ := sub_of hsub
      refine hng9 ?_
      clear hng9
      refine sub_K (fs := patFs _) (its := patIts _) (by first | with_reducible assumption | assumption) (by first | with_reducible assumption | assumption) (X1 _ _ (pat_obj _)) rfl rfl (pat_5 _) (pat_6 _) (pat_2 _) (X1 _ _ (pat_tup _)) rfl (pat_code _) (by omega) (N8.get (.head _)) rfl ?_ hgo (by omega) fun s8 t8 hB8 F10 N10' => ?_
      · intro E9 s9 nw9 am tp li b0 e0 bm em F9 N9 hsub9 hm9 ht9
        refine wpAny_call (kla_code B1 F9 X1 N9 T1 rfl rfl rfl (hsub9 _ (.head _)) (codeRec_news N9 (hsub9 _ (.tail _ (.tail _ (.tail _ (.tail _ hc7))))) hd7 hv7) (Nat.lt_of_le_of_lt (Nat.le_of_eq (rfl : _ = dp + 1)) (by omega)) rfl (locs rfl) (fun gg L9 h9 FG9 F9' N9' B9 X9 T9 => ?_) rfl rfl rfl (by decide))
        (try k_lift B9)
        (try k_fold)
        k_steps
        all_goals unfold Stuck
        · refine ⟨_, _, _, rfl, rfl, ?_, ?_⟩
          all_goals first
            | with_reducible assumption
            | assumption
            | (walk_at "Mdrop")
        · refine ⟨_, _, _, congrArg (Value.str · _) ?_, rfl, ?_, ?_⟩
          all_goals first
            | with_reducible assumption
            | assumption
            | (walk_at "Mdrop")
            | (have e9 : (⟨y0.cps.extract bm em⟩ : Str) = Str.empty := by
                have h9 : (⟨y0.cps.extract bm em⟩ : Str).length = 0 := by omega
                have h8 : y0.cps.extract bm em = #[] := Array.eq_empty_of_size_eq_zero h9
                rw [h8]; rfl
               have e8 : (⟨#[92] ++ y0.cps.extract bm em⟩ : Str) = Str.ofString "\\" ++ (⟨y0.cps.extract bm em⟩ : Str) := rfl
               rw [e8, e9]; rfl)
      have N10 := newsT N10'
      clear N10'
      have hzl : z0.length ≤ 100000 := by
        rw [hz0]
        show (PySem.Builtin.Str.glued _ l).length ≤ _
        rw [StrLaws.glued_eq_join]
        have h9 := StrLaws.join_length_le (Str.ofString "") l
        have e0 : (Str.ofString "").length = 0 := rfl
        rw [e0, Nat.mul_zero] at h9
        exact Nat.le_trans h9 (by omega)
      have hf57 : 57 < f := hlt7 _ (.head _)
      have hfD : D < f := hlt7 _ (.tail _ (.head _))
      have hfB : Bn < f := hlt7 _ (.tail _ (.tail _ (.head _)))
      rw [← hz0]
      (try k_unmd)
      (try k_fold)
      k_steps
      · refine hR9 _ _ ?_
        refine tr_goT (jj + 1) vs tb7 ex7 fuel out (by first | with_reducible assumption | assumption) (by first | with_reducible assumption | assumption) (fun p hp => by first | exact hp | exact .tail _ hp | exact .tail _ (.tail _ hp)) (endF_dot (by first | with_reducible assumption | assumption) (by first | with_reducible assumption | assumption)) rfl (by omega) ?_ (by omega) hO (by omega) hT7 hf4 hex7 (Nat.lt_succ_self _)
        (intro z hz hp9; have hp8 := hp9; simp only [List.contains_cons, List.contains_nil, Bool.or_eq_false_iff, beq_eq_false_iff_ne, ne_eq] at hp9; dsimp only [kstB]; (repeat (refine (if_neg (by simp [hz, hp9])).trans ?_)); exact hrelA z hz hp8)
      · refine hR9 _ _ ?_
        refine tr_goT (jj + 1) vs tb7 ex7 fuel out (by first | with_reducible assumption | assumption) (by first | with_reducible assumption | assumption) (fun p hp => by first | exact hp | exact .tail _ hp | exact .tail _ (.tail _ hp)) (endF_not (by first | with_reducible assumption | assumption) (by first | with_reducible assumption | assumption) (by first | with_reducible assumption | assumption)) rfl (by omega) ?_ (by omega) hO (by omega) hT7 hf4 hex7 (Nat.lt_succ_self _)
        (intro z hz hp9; have hp8 := hp9; simp only [List.contains_cons, List.contains_nil, Bool.or_eq_false_iff, beq_eq_false_iff_ne, ne_eq] at hp9; dsimp only [kstB]; (repeat (refine (if_neg (by simp [hz, hp9])).trans ?_)); exact hrelA z hz hp8)
      · refine hR9 _ _ ?_
        refine tr_goT (jj + 1) vs tb7 ex7 fuel out (by first | with_reducible assumption | assumption) (by first | with_reducible assumption | assumption) (fun p hp => by first | exact hp | exact .tail _ hp | exact .tail _ (.tail _ hp)) (endF_esc (by first | with_reducible assumption | assumption) (by first | with_reducible assumption | assumption) (by first | with_reducible assumption | assumption) (by first | with_reducible assumption | assumption)) rfl (by omega) ?_ (by omega) hO (by omega) hT7 hf4 hex7 (Nat.lt_succ_self _)
        (intro z hz hp9; have hp8 := hp9; simp only [List.contains_cons, List.contains_nil, Bool.or_eq_false_iff, beq_eq_false_iff_ne, ne_eq] at hp9; dsimp only [kstB]; (repeat (refine (if_neg (by simp [hz, hp9])).trans ?_)); exact hrelA z hz hp8)
      · refine hR9 _ _ ?_
        refine tr_goT (jj + 1) vs tb7 ex7 fuel out (by first | with_reducible assumption | assumption) (by first | with_reducible assumption | assumption) (fun p hp => by first | exact hp | exact .tail _ hp | exact .tail _ (.tail _ hp)) (endF_plain (by first | with_reducible assumption | assumption) (by first | with_reducible assumption | assumption) (by first | with_reducible assumption | assumption) (by first | with_reducible assumption | assumption)) rfl (by omega) ?_ (by omega) hO (by omega) hT7 hf4 hex7 (Nat.lt_succ_self _)
        (intro z hz hp9; have hp8 := hp9; simp only [List.contains_cons, List.contains_nil, Bool.or_eq_false_iff, beq_eq_false_iff_ne, ne_eq] at hp9; dsimp only [kstB]; (repeat (refine (if_neg (by simp [hz, hp9])).trans ?_)); exact hrelA z hz hp8)
      · refine hR9 _ _ ?_
        refine tr_goT (jj + 1) vs tb7 ex7 fuel out (by first | with_reducible assumption | assumption) (by first | with_reducible assumption | assumption) (fun p hp => by first | exact hp | exact .tail _ hp | exact .tail _ (.tail _ hp)) (endF_nil (by first | with_reducible assumption | assumption)) rfl (by omega) ?_ (by omega) hO (by omega) hT7 hf4 hex7 (Nat.lt_succ_self _)
        (intro z hz hp9; have hp8 := hp9; simp only [List.contains_cons, List.contains_nil, Bool.or_eq_false_iff, beq_eq_false_iff_ne, ne_eq] at hp9; dsimp only [kstB]; (repeat (refine (if_neg (by simp [hz, hp9])).trans ?_)); exact hrelA z hz hp8)
    · unfold Stuck
      refine Classical.byContradiction fun hng9 => ?_
      obtain ⟨hc, hf2⟩ := trF_chr hf (by first | with_reducible assumption | assumption) (by first | with_reducible assumption | assumption) (by first | with_reducible assumption | assumption) (by first | with_reducible assumption | assumption)
      refine hng9 ?_
      clear hng9
      have e1 := str_one (y := Txt.item x (i : Int)) (by first | with_reducible assumption | assumption)
      rw [e1]
      refine' Does.use ?k1 ?k2 ?k3 ?k4 ?k5 ?k6 ?k7 ?k8 (escape_does _ _ _ _ _ _ _ hc) ?_
      walk_at "Muse"
      intro n' r' h' tk' hR' F' N'
      refine Classical.byContradiction fun hng9 => ?_
      obtain ⟨hn', u', rfl⟩ := hR'
      refine hng9 ?_
      clear hng9
      subst hn'
      (try k_unmd)
      k_fold
      k_steps
      refine hR9 _ _ ?_
      refine tr_go (i + 1) _ (vs ++ [.str _ u']) tb ex fuel _ (by first | with_reducible assumption | assumption) (by first | with_reducible assumption | assumption) (by simp) (by simp) rfl (by omega) ?_ (by omega) hO.snocT (by simp; omega) hT hf2 hex (Nat.lt_succ_self _)
      (intro z hz hp9; simp only [List.contains_cons, List.contains_nil, Bool.or_eq_false_iff, beq_eq_false_iff_ne, ne_eq] at hp9; (dsimp only [kstB]; repeat (first | rfl | (refine (if_neg (by simp [hz, hp9])).trans ?_))))
    · have e1 := trF_done hf (by first | with_reducible assumption | assumption)
      subst e1
      refine hret ((D, listOf vs.toArray vs.length) :: (57, tabObj tb) :: (ex ++ rest)) _ _ ?zx1 htA.2 ?zx2 ?zx3
      · exact ⟨D, vs, tb, ex, rfl, rfl, hO, hT, fun q hq => ⟨(hex q hq).1, (hex q hq).2.1⟩, Nat.ne_of_gt l1.1, allLt_ne l1.2⟩
      · first | with_reducible assumption | assumption
      · rename (News _ _ _ _) => NZ
        exact cb_drop NZ (List.forall_mem_cons.mpr ⟨.tail _ (.head _), List.forall_mem_cons.mpr ⟨.head _, fun p hp => .tail _ (.tail _ (.tail _ hp))⟩⟩)
    all_goals (exfalso; omega)
end

section
open PySem PySem.W PyProof.Rows PySem.Calls
theorem mw_P8_0 : True := by
  k_with_none
  trivial
theorem mw_P8_1 : True := by
  (k_with "Mdrop" => first | assumption | (refine' cb_drop ?cbN ?cbS; (case cbN => assumption); (case cbS => kcj_all)))
  trivial
theorem mw_P8_2 : True := by
  (k_with "exec While Compare cons nil" => (k_here; refine stuck_at ?_))
  (k_with "ite" => ((with_reducible show if ((_ : Int) != _) = true then _ else _); first | (with_reducible refine ine_f (by omega) ?_) | (with_reducible refine ine_t (by omega) ?_)))
  (k_with "ite" => first | (with_reducible refine ite_tt ?_) | (with_reducible refine ite_ff ?_))
  (k_with "compareOp In str ref" => (k_here; k_dflt (refine' in_none_strs ?k1 ?k2 ?k3 ?_; (case k1 => k_asm); (case k2 => k_mem); (case k3 => exact .cons _ _ (.cons _ _ (.cons _ _ .nil))); k_whole); (try rw [show (([Str.ofString "?", Str.ofString ".", Str.ofString "(?!)"] : List Str).any fun y => y == _) = _ by assumption])))
  (k_with "compareOp In none ref" => (k_here; k_dflt (refine' in_none_list ?k1 ?k2 ?k3 ?_; (case k1 => k_asm); (case k2 => k_mem); (case k3 => (intro _ hy; simp only [List.mem_cons, List.not_mem_nil, or_false] at hy; rcases hy with rfl | rfl | rfl <;> exact ⟨_, _, rfl⟩)); k_whole)))
  (k_with "call builtin:dict.get" => ((with_reducible show wpAny _ _ (call _ [_, Value.none, _]) _ _ _); k_here; k_dflt (refine' get_none_str ?k1 ?k2 ?k3 ?k4 ?_; (case k1 => k_asm); (case k2 => k_mem); (case k3 => assumption); (case k4 => assumption); k_whole)))
  trivial
theorem signN_does (w : World) (mean : ExcName → Option Value) (mg mb : Str → Option Value) (news : List (Addr × Obj)) :
  Does PySem.Challenge.rw_rx0110_02.row.prog w (hd.heap_39 w.params) topProg (looseW hd.view_39 [Str.ofString "_twin_re_1", Str.ofString "_special_chars_map"] ++ (recsOf hd.view_39).map (fun x => x.name) ++ (litsOf hd.view_39).map (fun x => x.1) ++ (clssOf hd.view_39 (looseW hd.view_39 [Str.ofString "_twin_re_1", Str.ofString "_special_chars_map"])).map (fun x => x.name)) mean mg mb 196 1 news [Value.none] (fun n r => news = n ∧ ∃ u, r = .str (Str.ofString "S") u) := by
  k_fill
  unfold Does
  intro dp un gd cn cs a ccd cl outer A₀ base h₀ L m s Q E B F X N T hk hd hu hret
  refine wpAny_call ?_
  (k_dflt cell_enter)
  k_steps
  exact hret news _ _ _ ⟨rfl, _, rfl⟩ (by assumption) (by walk_at "Mdrop")
theorem sign3_does (w : World) (mean : ExcName → Option Value) (mg mb : Str → Option Value) (news : List (Addr × Obj)) (x y : Str) (t : Tok) (hxy : (x = Str.ofString "?" ∧ y = Str.ofString "Q") ∨ (x = Str.ofString "." ∧ y = Str.ofString "A") ∨ (x = Str.ofString "(?!)" ∧ y = Str.ofString "0")) :
  Does PySem.Challenge.rw_rx0110_02.row.prog w (hd.heap_39 w.params) topProg (looseW hd.view_39 [Str.ofString "_twin_re_1", Str.ofString "_special_chars_map"] ++ (recsOf hd.view_39).map (fun x => x.name) ++ (litsOf hd.view_39).map (fun x => x.1) ++ (clssOf hd.view_39 (looseW hd.view_39 [Str.ofString "_twin_re_1", Str.ofString "_special_chars_map"])).map (fun x => x.name)) mean mg mb 196 1 news [Value.str x t] (fun n r => news = n ∧ ∃ u, r = .str y u) := by
  k_fill
  unfold Does
  intro dp un gd cn cs a ccd cl outer A₀ base h₀ L m s Q E B F X N T hk hd hu hret
  refine wpAny_call ?_
  (k_dflt cell_enter)
  rcases hxy with ⟨rfl, rfl⟩ | ⟨rfl, rfl⟩ | ⟨rfl, rfl⟩
  · have hin : (([Str.ofString "?", Str.ofString ".", Str.ofString "(?!)"] : List Str).any fun y => y == Str.ofString "?") = true := by decide +kernel
    k_steps
    exact hret news _ _ _ ⟨rfl, _, rfl⟩ (by assumption) (by walk_at "Mdrop")
  · have hin : (([Str.ofString "?", Str.ofString ".", Str.ofString "(?!)"] : List Str).any fun y => y == Str.ofString ".") = true := by decide +kernel
    k_steps
    exact hret news _ _ _ ⟨rfl, _, rfl⟩ (by assumption) (by walk_at "Mdrop")
  · have hin : (([Str.ofString "?", Str.ofString ".", Str.ofString "(?!)"] : List Str).any fun y => y == Str.ofString "(?!)") = true := by decide +kernel
    k_steps
    exact hret news _ _ _ ⟨rfl, _, rfl⟩ (by assumption) (by walk_at "Mdrop")
theorem mw_P8_3 : True := by
  (k_with "call builtin:list.append" => (k_here; k_dflt (refine' app_strs ?k1 ?k2 ?k3 ?k4 ?k5 ?_; (case k1 => k_asm); (case k2 => k_asm); (case k3 => assumption); (case k4 => omega); (case k5 => k_upd); k_whole); intro _ _ _ _))
  (k_with "subscriptTail Name UnaryOp ref int" => (k_here; (with_reducible show wpAny _ _ (subscriptTail _ _ (Value.ref _) (Value.int _ _)) _ _ _); k_dflt (refine' item_snoc ?k1 ?k2 ?k3 ?_; (case k1 => k_asm); (case k2 => k_mem); (case k3 => omega); k_whole)))
  (k_with "exec If BoolOp cons nil" => ((fail_if_success (have : GoOn := by assumption)); (refine stuck_at ?_)))
  (k_with "Mstrs" => first | assumption | exact .nil | exact .cons _ _ .nil | exact .cons _ _ (.cons _ _ .nil) | exact .cons _ _ (.cons _ _ (.cons _ _ .nil)) | exact .cons _ _ (.cons _ _ (.cons _ _ (.cons _ _ .nil))) | exact .cons _ _ (.cons _ _ (.cons _ _ (.cons _ _ (.cons _ _ .nil)))))
  (k_with "compareOp Eq ref ref" => (k_here; (with_reducible show wpAny _ _ (compareOp CmpOp.Eq (Value.ref _) (Value.ref _)) _ _ _); k_dflt (refine' eq_strs ?k1 ?k2 ?k3 ?k4 ?k5 ?k6 ?_; (case k1 => k_asm); (case k2 => k_mem); (case k4 => k_mem); (case k3 => walk_at "Mstrs"); (case k5 => walk_at "Mstrs"); (case k6 => units_room); k_whole)))
  (k_with "compareOp In str ref" => (k_here; k_dflt (refine' in_strs ?k1 ?k2 ?k3 ?_; (case k1 => k_asm); (case k2 => k_mem); (case k3 => walk_at "Mstrs"); k_whole)))
  trivial
theorem sign_1 {a y : Str} (h : sign1 [a] = some y) : ([a].any fun x => x == Str.ofString "\\") = false ∧ Txt.contains (Str.ofString "*[^$+|(){}~-]") a = false ∧ a.length ≠ 0 ∧ Txt.item a (-1) = y := by
  simp only [sign1] at h
  split at h
  · cases h
  · rename_i q
    simp only [Bool.or_eq_true, decide_eq_true_eq, not_or, Bool.not_eq_true] at q
    exact ⟨by simpa using q.1.1, q.1.2, q.2, Option.some.inj h⟩
theorem sign_3 {a b c y : Str} (h : sign1 [a, b, c] = some y) : ([a, b, c].any fun x => x == Str.ofString "\\") = false ∧ (a == Str.ofString "[") = true ∧ (c == Str.ofString "]") = true ∧ Txt.contains (Str.ofString "^[-~") b = false ∧ b.length ≠ 0 ∧ Txt.item b (-1) = y := by
  simp only [sign1] at h
  split at h
  · rename_i q
    simp only [Bool.and_eq_true, Bool.not_eq_true', decide_eq_true_eq] at q
    obtain ⟨⟨⟨⟨h1, h2⟩, h3⟩, h4⟩, h5⟩ := q
    refine ⟨?_, h1, h2, h4, h5, Option.some.inj h⟩
    have e1 := eq_of_beq h1
    have e2 := eq_of_beq h2
    subst e1 e2
    simp only [List.any_cons, List.any_nil, h3]
    decide +kernel
  · cases h
theorem occ_of {x y : Str} (h : Txt.contains x y = false) : (Builtin.Str.occurrences x y 0 x.length 1).isEmpty = true := by
  unfold Txt.contains at h
  simpa using h
theorem sign_4 {a b c d y : Str} (h : sign1 [a, b, c, d] = some y) :
    (([a, b, c, d].any fun x => x == Str.ofString "\\") = false ∧ (a == Str.ofString "[") = true ∧ (d == Str.ofString "]") = true ∧ (([b, c] : List Str) == [Str.ofString "a", Str.ofString "\\-"]) = true ∧ Str.ofString "P" = y) ∨
    (([a, b, c, d].any fun x => x == Str.ofString "\\") = false ∧ (a == Str.ofString "[") = true ∧ (d == Str.ofString "]") = true ∧ (([b, c] : List Str) == [Str.ofString "a", Str.ofString "\\-"]) = false ∧ (b == Str.ofString "^") = true ∧ Txt.contains (Str.ofString "-~") c = false ∧ c.length ≠ 0 ∧ Str.ofString "N" ++ Txt.item c (-1) = y) := by
  simp only [sign1] at h
  split at h
  · rename_i q
    simp only [Bool.and_eq_true, Bool.not_eq_true'] at q
    obtain ⟨⟨⟨h1, h2⟩, h3⟩, h4⟩ := q
    have e1 := eq_of_beq h1
    have e2 := eq_of_beq h2
    subst e1 e2
    have hany : ([Str.ofString "[", b, c, Str.ofString "]"].any fun x => x == Str.ofString "\\") = false := by
      simp only [List.any_cons, List.any_nil, h3, h4]
      decide +kernel
    split at h
    · rename_i q2
      simp only [Bool.and_eq_true] at q2
      refine .inl ⟨hany, h1, h2, ?_, Option.some.inj h⟩
      show (b == _ && (c == _ && true)) = true
      rw [q2.1, q2.2]; rfl
    · rename_i q2
      split at h
      · rename_i q3
        simp only [Bool.and_eq_true, Bool.not_eq_true', decide_eq_true_eq] at q3
        refine .inr ⟨hany, h1, h2, ?_, q3.1.1, q3.1.2, q3.2, Option.some.inj h⟩
        show (b == _ && (c == _ && true)) = false
        rw [Bool.and_true]
        simpa using q2
      · cases h
  · cases h
theorem sign_5 {a b c d e y : Str} (h : sign1 [a, b, c, d, e] = some y) :
    ([a, b, c, d, e].any fun x => x == Str.ofString "\\") = false ∧ (a == Str.ofString "[") = true ∧ (e == Str.ofString "]") = true ∧ (c == Str.ofString "-") = true ∧ b.length ≠ 0 ∧ d.length ≠ 0 ∧ (Txt.item b (-1) == Txt.item d (-1)) = true ∧ Txt.contains (Str.ofString "^[-~") b = false ∧ Txt.item b (-1) = y := by
  simp only [sign1] at h
  split at h
  · rename_i q
    simp only [Bool.and_eq_true, Bool.not_eq_true', decide_eq_true_eq] at q
    obtain ⟨⟨⟨⟨⟨⟨⟨⟨⟨h1, h2⟩, h3⟩, h4⟩, h5⟩, h6⟩, h7⟩, h8⟩, h9⟩, h10⟩ := q
    refine ⟨?_, h1, h2, h6, h7, h8, h9, h10, Option.some.inj h⟩
    have e1 := eq_of_beq h1
    have e2 := eq_of_beq h2
    subst e1 e2
    simp only [List.any_cons, List.any_nil, h3, h4, h5]
    decide +kernel
  · cases h
theorem strs_4 {vs : List Value} {a b c d : Str} (h : StrsAre vs [a, b, c, d]) : ∃ t u v w, vs = [.str a t, .str b u, .str c v, .str d w] := by
  cases h with | cons y t h => obtain ⟨u, v, w, rfl⟩ := strs_3 h; exact ⟨t, u, v, w, rfl⟩
theorem strs_5 {vs : List Value} {a b c d e : Str} (h : StrsAre vs [a, b, c, d, e]) : ∃ t u v w x, vs = [.str a t, .str b u, .str c v, .str d w, .str e x] := by
  cases h with | cons y t h => obtain ⟨u, v, w, x, rfl⟩ := strs_4 h; exact ⟨t, u, v, w, x, rfl⟩
theorem mw_P8_4 : True := by
  (k_with "Mitem" => (k_here; (with_reducible show wpAny _ _ (subscriptTail _ _ (Value.ref _) (Value.int _ _)) _ _ _); k_dflt (first
  | (refine' item_vals 0 ?k1 ?k2 ?k3 ?k4 ?k5 ?_; (case k1 => k_asm); (case k2 => k_mem); (case k3 => rfl); (case k4 => decide); (case k5 => rfl); k_whole)
  | (refine' item_vals 1 ?k1 ?k2 ?k3 ?k4 ?k5 ?_; (case k1 => k_asm); (case k2 => k_mem); (case k3 => rfl); (case k4 => decide); (case k5 => rfl); k_whole)
  | (refine' item_vals 2 ?k1 ?k2 ?k3 ?k4 ?k5 ?_; (case k1 => k_asm); (case k2 => k_mem); (case k3 => rfl); (case k4 => decide); (case k5 => rfl); k_whole)); (try dsimp only)))
  (k_with "subscriptTail Name Constant ref int" => walk_at "Mitem")
  (k_with "subscriptTail" => ((with_reducible show wpAny _ _ (subscriptTail (PySem.Expr.Subscript _ _ _) _ _ _) _ _ _); k_dflt (refine kba_turn (value' := PySem.Expr.Name (PySem.Str.ofString "_") ⟨0, 0, 0, 0⟩) (fun _ => rfl) ?_)))
  trivial
theorem sign_of {l : List Str} {y : Str} (h : sign1 l = some y) : (∃ a, l = [a] ∧ sign1 [a] = some y) ∨ (∃ a b c, l = [a, b, c] ∧ sign1 [a, b, c] = some y) ∨ (∃ a b c d, l = [a, b, c, d] ∧ sign1 [a, b, c, d] = some y) ∨ (∃ a b c d e, l = [a, b, c, d, e] ∧ sign1 [a, b, c, d, e] = some y) := by
  rcases l with _ | ⟨a, _ | ⟨b, _ | ⟨c, _ | ⟨d, _ | ⟨e, _ | ⟨f, r⟩⟩⟩⟩⟩⟩
  · cases h
  · exact .inl ⟨a, rfl, h⟩
  · cases h
  · exact .inr (.inl ⟨a, b, c, rfl, h⟩)
  · exact .inr (.inr (.inl ⟨a, b, c, d, rfl, h⟩))
  · exact .inr (.inr (.inr ⟨a, b, c, d, e, rfl, h⟩))
  · cases h
theorem signG_does (w : World) (mean : ExcName → Option Value) (mg mb : Str → Option Value) (news : List (Addr × Obj)) (x y : Str) (t : Tok) (hx : x.length ≤ 1000) (l : List Str)
  (hin : (([Str.ofString "?", Str.ofString ".", Str.ofString "(?!)"] : List Str).any fun y => y == x) = false) (hl : marksF x (x.length + 1) 0 [] = some l) (hs : sign1 l = some y) :
  Does PySem.Challenge.rw_rx0110_02.row.prog w (hd.heap_39 w.params) topProg (looseW hd.view_39 [Str.ofString "_twin_re_1", Str.ofString "_special_chars_map"] ++ (recsOf hd.view_39).map (fun x => x.name) ++ (litsOf hd.view_39).map (fun x => x.1) ++ (clssOf hd.view_39 (looseW hd.view_39 [Str.ofString "_twin_re_1", Str.ofString "_special_chars_map"])).map (fun x => x.name)) mean mg mb 196 1 news [Value.str x t] (fun n r => news = n ∧ ∃ u, r = .str y u) := by
  k_fill
  unfold Does
  intro dp un gd cn cs a ccd cl outer A₀ base h₀ L m s Q E B F X N T hk hd hu hret
  refine wpAny_call ?_
  (k_dflt cell_enter)
  k_steps
  rename_i g1 L1 hh1 FG1 B1 X1 T1 tkA D0 hh2 l0 tkB D hh3 l1 hh4 hh5 F1 N1
  unfold Stuck
  refine ksw_while (σ := SgS) (fun c => (D, listOf c.vs.toArray c.n) :: (D0, listOf #[Value.none, Value.str (Str.ofString "?") _, Value.str (Str.ofString ".") _, Value.str (Str.ofString "(?!)") _] 0) :: news) (fun c => [(Str.ofString "k", .int (c.k : Int) c.tk)]) (fun c => StrsAre c.vs c.acc) []
    (fun c => marksF x c.fuel c.k c.acc = some l ∧ c.acc.length ≤ c.k) (fun c => c.fuel) ⟨0, _, D, [], [], 0, x.length + 1⟩ F1 N1 .nil (List.forall_mem_cons.mpr ⟨rfl, fun _ h => nomatch h⟩) ⟨hl, Nat.le_refl _⟩ ?_
  intro c u h tk hF hP F2 N2
  obtain ⟨k, tk, _, vs, acc, n, fuel⟩ := c
  obtain ⟨hm, hal⟩ := hP
  dsimp only at hF hm hal F2 N2
  rcases fuel with _ | fuel
  · cases hm
  have hb : k < x.length → acc.length ≤ 1000000 := fun _ => by omega
  have hvl := hF.len_eq
  have hvb : k < x.length → vs.length ≤ 1000000 := fun _ => by omega
  k_unmd
  k_fold
  k_steps
  · obtain ⟨h1, h2⟩ := marks_esc hm (by omega) (by assumption)
    refine sg_end (k + (Txt.slice x (some (k : Int)) (some ((k : Int) + 2))).length) D _ (acc ++ [Txt.slice x (some (k : Int)) (some ((k : Int) + 2))]) (n + 1) fuel (by assumption) (by assumption) (fun _ h => h) (by assumption) rfl (by omega) (by intro z hz; ((try dsimp only [kstB]); repeat (first | rfl | (refine (if_neg (by simp [hz])).trans ?_)))) ⟨h2, ?_⟩ (Nat.lt_succ_self _)
    simp only [List.length_append, List.length_singleton]; omega
  · have h2 := marks_chr hm (by omega) (by assumption)
    refine sg_end (k + 1) D _ (acc ++ [Txt.item x (k : Int)]) (n + 1) fuel (by assumption) (by assumption) (fun _ h => h) (by assumption) rfl (by omega) (by intro z hz; ((try dsimp only [kstB]); repeat (first | rfl | (refine (if_neg (by simp [hz])).trans ?_)))) ⟨h2, ?_⟩ (Nat.lt_succ_self _)
    simp only [List.length_append, List.length_singleton]; omega
  · have h2 := marks_end hm (by omega)
    subst h2
    unfold Stuck
    rcases sign_of hs with ⟨a9, rfl, h1⟩ | ⟨a9, b9, c9, rfl, h1⟩ | ⟨a9, b9, c9, d9, rfl, h1⟩ | ⟨a9, b9, c9, d9, e9, rfl, h1⟩
    · obtain ⟨ta, rfl⟩ := strs_1 hF
      have hgo := goOn
      have q1 : (([a9] : List Str) == []) = false := rfl
      obtain ⟨q2, q3, q4, rfl⟩ := sign_1 h1
      have q5 := occ_of q3
      k_steps
      exact hret news _ _ _ ⟨rfl, _, rfl⟩ (by assumption) (by walk_at "Mdrop")
    · obtain ⟨ta, tb, tc, rfl⟩ := strs_3 hF
      have hgo := goOn
      have q1 : (([a9, b9, c9] : List Str) == []) = false := rfl
      obtain ⟨q2, q3, q4, q5, q6, rfl⟩ := sign_3 h1
      have q7 : (([b9] : List Str) == [Str.ofString "a", Str.ofString "\\-"]) = false := Bool.and_false _
      have q8 := occ_of q5
      k_steps
      exact hret news _ _ _ ⟨rfl, _, rfl⟩ (by assumption) (by walk_at "Mdrop")
    · obtain ⟨ta, tb, tc, td, rfl⟩ := strs_4 hF
      have hgo := goOn
      have q1 : (([a9, b9, c9, d9] : List Str) == []) = false := rfl
      rcases sign_4 h1 with ⟨q2, q3, q4, q5, rfl⟩ | ⟨q2, q3, q4, q5, q6, q7, q8, rfl⟩
      · k_steps
        exact hret news _ _ _ ⟨rfl, _, rfl⟩ (by assumption) (by walk_at "Mdrop")
      · have q9 := occ_of q7
        k_steps
        exact hret news _ _ _ ⟨rfl, _, rfl⟩ (by assumption) (by walk_at "Mdrop")
    · obtain ⟨ta, tb, tc, td, te, rfl⟩ := strs_5 hF
      have hgo := goOn
      have q1 : (([a9, b9, c9, d9, e9] : List Str) == []) = false := rfl
      obtain ⟨q2, q3, q4, q5, q6, q7, q8, q9, rfl⟩ := sign_5 h1
      have q10 : (([b9, c9, d9] : List Str) == [Str.ofString "a", Str.ofString "\\-"]) = false := by
        show (b9 == _ && (c9 == _ && false)) = false
        rw [Bool.and_false, Bool.and_false]
      have q11 := occ_of q9
      k_steps
      exact hret news _ _ _ ⟨rfl, _, rfl⟩ (by assumption) (by walk_at "Mdrop")
end

section
open PySem PySem.W PyProof.Rows PySem.Calls PyProof.Rows.LCg
theorem mw_P9_0 : True := by
  k_with_none
  trivial
theorem mw_P9_1 : True := by
  (k_with "Mdrop" => first | assumption | (refine' cb_drop ?cbN ?cbS; (case cbN => assumption); (case cbS => kcj_all)))
  (k_with "Muse" => (
        (case k1 => first | k_asm | ktn_no "use: the frames below")
        (case k2 => first | k_asm | ktn_no "use: the frame")
        (case k3 => first | k_asm | ktn_no "use: the written part")
        (case k4 => first | k_asm | ktn_no "use: the ledger")
        (case k5 => first | k_asm | ktn_no "use: the top's facts")
        (case k6 => first | exact rfl | assumption | ktn_no "use: the caller is no def")
        (case k7 => first | ktr_room | ktn_no "use: the frames' room")
        (case k8 => first | ktr_units | ktn_no "use: the C units")))
  trivial
theorem mw_P9_2 : True := by
  (k_with "call ref" => ((with_reducible show wpAny _ _ (call (Value.ref 62) _) _ _ _); (refine stuck_at ?_)))
  (k_with "CompSrc" => (refine stuck_at ?_))
  (k_with "eval ListComp" => (k_here; k_dflt (refine LCg.ListComp_U (F₀ := by k_asm) (by rfl) (by decide) (by rfl) (by decide) (by rfl) ?_)))
  trivial
inductive OutV : Value → Option Str → Prop
  | star : OutV .none none
  | text (z : Str) (t : Tok) : OutV (.str z t) (some z)
theorem OutAre.at {vs : List Value} {os : List (Option Str)} (h : OutAre vs os) : ∀ (i : Nat) v, vs[i]? = some v → ∃ o, os[i]? = some o ∧ OutV v o := by
  induction h with
  | nil => intro i v hi; simp at hi
  | star h ih =>
    intro i v hi
    cases i with
    | zero => cases hi; exact ⟨none, rfl, .star⟩
    | succ i => exact ih i v (by simpa using hi)
  | text z t h ih =>
    intro i v hi
    cases i with
    | zero => cases hi; exact ⟨some z, rfl, .text z t⟩
    | succ i => exact ih i v (by simpa using hi)
theorem mapM_at {α β : Type} {f : α → Option β} : ∀ {l : List α} {r : List β}, l.mapM f = some r → l.length = r.length ∧ ∀ (i : Nat) a, l[i]? = some a → ∃ b, r[i]? = some b ∧ f a = some b
  | [], r, h => by simp at h; subst h; exact ⟨rfl, fun i a hi => by simp at hi⟩
  | x :: l, r, h => by
    rw [List.mapM_cons] at h
    cases hx : f x with
    | none => rw [hx] at h; cases h
    | some b =>
      rw [hx] at h
      cases hl : l.mapM f with
      | none => rw [hl] at h; cases h
      | some r' =>
        rw [hl] at h
        cases h
        obtain ⟨h1, h2⟩ := mapM_at hl
        refine ⟨by simp [h1], fun i a hi => ?_⟩
        cases i with
        | zero => cases hi; exact ⟨b, rfl, hx⟩
        | succ i => exact h2 i a (by simpa using hi)
noncomputable def readF (l : List (Option Str)) : Option Str := match l.mapM signF with
  | none => none
  | some sl => if (sl.map (·.length)).sum + sl.length ≤ 100000 then some (Txt.join (Str.ofString "") sl) else none
theorem read_of {l : List (Option Str)} {y : Str} (h : readF l = some y) : ∃ sl, l.mapM signF = some sl ∧ (sl.map (·.length)).sum + sl.length ≤ 100000 ∧ y = Txt.join (Str.ofString "") sl := by
  unfold readF at h
  cases hm : l.mapM signF with
  | none => rw [hm] at h; cases h
  | some sl =>
    rw [hm] at h
    dsimp only at h
    split at h
    · rename_i q; exact ⟨sl, rfl, q, (Option.some.inj h).symm⟩
    · cases h
theorem strs_at : ∀ {vs : List Value} {ys : List Str}, vs.length = ys.length → (∀ (i : Nat) v, vs[i]? = some v → ∃ z u, ys[i]? = some z ∧ v = Value.str z u) → StrsAre vs ys
  | [], [], _, _ => .nil
  | v :: vs, y :: ys, h, hv => by
    obtain ⟨z, u, h1, rfl⟩ := hv 0 v rfl
    cases h1
    exact .cons _ _ (strs_at (by simpa using h) fun i v hi => hv (i + 1) v (by simpa using hi))
theorem sign_does (w : World) (mean : ExcName → Option Value) (mg mb : Str → Option Value) (news : List (Addr × Obj)) (v : Value) (o : Option Str) (y : Str) (hv : OutV v o) (hs : signF o = some y) :
  Does PySem.Challenge.rw_rx0110_02.row.prog w (hd.heap_39 w.params) topProg (looseW hd.view_39 [Str.ofString "_twin_re_1", Str.ofString "_special_chars_map"] ++ (recsOf hd.view_39).map (fun x => x.name) ++ (litsOf hd.view_39).map (fun x => x.1) ++ (clssOf hd.view_39 (looseW hd.view_39 [Str.ofString "_twin_re_1", Str.ofString "_special_chars_map"])).map (fun x => x.name)) mean mg mb 196 1 news [v] (fun n r => news = n ∧ ∃ u, r = .str y u) := by
  cases hv with
  | star => cases hs; exact signN_does w mean mg mb news
  | text z t =>
    unfold signF signT at hs
    dsimp only at hs
    split at hs
    · cases hs
    · rename_i hlen
      split at hs
      · rename_i q; cases hs; exact sign3_does w mean mg mb news z _ t (.inl ⟨eq_of_beq q, rfl⟩)
      · rename_i q1
        split at hs
        · rename_i q; cases hs; exact sign3_does w mean mg mb news z _ t (.inr (.inl ⟨eq_of_beq q, rfl⟩))
        · rename_i q2
          split at hs
          · rename_i q; cases hs; exact sign3_does w mean mg mb news z _ t (.inr (.inr ⟨eq_of_beq q, rfl⟩))
          · rename_i q3
            cases hm : marksF z (z.length + 1) 0 [] with
            | none => rw [hm] at hs; cases hs
            | some l =>
              rw [hm] at hs
              refine signG_does w mean mg mb news z y t (by omega) l ?_ hm hs
              simp only [List.any_cons, List.any_nil, Bool.or_false, Bool.or_eq_false_iff]
              refine ⟨?_, ?_, ?_⟩ <;> (rw [beq_eq_false_iff_ne]; intro e; subst e; first | exact q1 (by decide +kernel) | exact q2 (by decide +kernel) | exact q3 (by decide +kernel))
theorem mw_P9_3 : True := by
  (k_with "call ref" => ((with_reducible show wpAny _ _ (call (Value.ref 196) _) _ _ _); k_here; k_dflt (refine' Does.use ?k1 ?k2 ?k3 ?k4 ?k5 ?k6 ?k7 ?k8 (by assumption) ?_; walk_at "Muse"; k_whole); intro _ _ _ _ hR' _ _; obtain ⟨rfl, _, rfl⟩ := hR'; (try dsimp only); (try k_fold)))
  (k_with "call builtin:str.join" => (k_here; k_dflt (refine' join_listW ?k1 ?k2 ?k3 ?k4 ?_; (case k1 => exact News.isList (by k_asm) (by k_mem)); (case k2 => (with_reducible assumption)); (case k3 => decide +kernel); (case k4 => omega); k_whole); intro _ _))
  trivial
theorem read_does (w : World) (mean : ExcName → Option Value) (mg mb : Str → Option Value) (rest : List (Addr × Obj)) (tb : Array Value) (x : Str) (t : Tok) (hx : x.length ≤ 100000) (h57 : ∀ q ∈ rest, q.1 ≠ 57)
  (fin : List (Option Str)) (y : Str) (htr : trF x (x.length + 1) 0 [] = some fin) (hy : readF fin = some y) (hT : TabOk posL (Str.ofString "_translate.<locals>.<lambda>") rest tb) :
  DoesG PySem.Challenge.rw_rx0110_02.row.prog w (hd.heap_39 w.params) topProg (looseW hd.view_39 [Str.ofString "_twin_re_1", Str.ofString "_special_chars_map"] ++ (recsOf hd.view_39).map (fun x => x.name) ++ (litsOf hd.view_39).map (fun x => x.1) ++ (clssOf hd.view_39 (looseW hd.view_39 [Str.ofString "_twin_re_1", Str.ofString "_special_chars_map"])).map (fun x => x.name)) mean mg mb 201 5 ((57, tabObj tb) :: rest) [Value.str x t]
    (fun n r => ∃ tb' ex, n = (57, tabObj tb') :: (ex ++ rest) ∧ TabOk posL (Str.ofString "_translate.<locals>.<lambda>") (ex ++ rest) tb' ∧ (∀ q ∈ ex, q.1 ≠ 57) ∧ ∃ u, r = .str y u) := by
  k_fill
  unfold DoesG
  intro dp un gd cn cs a ccd cl outer A₀ base h₀ L m s oo Q E B F X N T hk hd hu hBB hret
  refine wpAny_call ?_
  (k_dflt cell_enter)
  k_steps
  unfold Stuck
  refine' DoesG.use ?k1 ?k2 ?k3 ?k4 ?k5 ?k6 ?k7 ?k8 (translate_does _ _ _ _ _ _ _ _ _ hx h57 fin htr hT) ?_
  walk_at "Muse"
  intro n' r' s1 hR hB1 F1 N1
  refine Classical.byContradiction fun hng9 => ?_
  obtain ⟨D, vs, tb1, ex, rfl, rfl, hO, hT1, hex, hD, hrD⟩ := hR
  refine hng9 ?_
  clear hng9
  refine Classical.byContradiction fun hng9 => ?_
  obtain ⟨sl, hsl, hbd, rfl⟩ := read_of hy
  refine hng9 ?_
  clear hng9
  refine Classical.byContradiction fun hng9 => ?_
  obtain ⟨hln, hat⟩ := mapM_at hsl
  refine hng9 ?_
  clear hng9
  have hvl := hO.len
  refine CompSrc.ledger rfl F1 N1 (.head _) ?_ ?_
  · rw [List.size_toArray, sizeLine_eq]; omega
  intro g
  refine comp_map (fun i y => ∃ z u, sl[i]? = some z ∧ y = Value.str z u) (.inr ⟨_, .head _, rfl, _, rfl⟩) ?_ ?_
  · intro i ys v I oI C oC D2 m2 h2 tk2 E2 hi hP hC hx2 F2 N2 off ne
    obtain ⟨o, ho, hv⟩ := hO.at i v (by simpa using hP)
    obtain ⟨z, hz, hs⟩ := hat i o ho
    have hdoes := sign_does w mean mg mb ((I, oI) :: (C, oC) :: (D2, lst ys) :: (D, W.listOf vs.toArray vs.length) :: (57, tabObj tb1) :: (ex ++ rest)) v o z hv hs
    (try k_unmd)
    (try k_fold)
    k_steps
    all_goals assumption
  · intro ys hys hR
    have hS : StrsAre ys sl := strs_at (by rw [hys, List.size_toArray]; omega) hR
    unfold FinE
    intro D3 h3 tk3 F3 N3 o3
    dsimp only
    k_unmd
    k_fold
    k_steps
    exact hret _ _ _ ⟨tb1, ex, rfl, hT1, fun q hq => (hex q hq).1, _, rfl⟩ (by first | assumption | exact And.right (by assumption)) (by assumption) (by walk_at "Mdrop")
end

section
open PySem PySem.W PyProof.Rows PySem.Calls
theorem mw_P10_0 : True := by
  k_with_none
  trivial
theorem mw_P10_1 : True := by
  (k_with "Mdrop" => first | assumption | (refine' cb_drop ?cbN ?cbS; (case cbN => assumption); (case cbS => kcj_all)))
  trivial
theorem mw_P10_2 : True := by
  (k_with "ite" => ((with_reducible show if ((_ : Int) != _) = true then _ else _); first | (with_reducible refine ine_f (by omega) ?_) | (with_reducible refine ine_t (by omega) ?_)))
  (k_with "ite" => first | (with_reducible refine ite_tt ?_) | (with_reducible refine ite_ff ?_))
  (k_with "ite" => first
  | ((with_reducible show if ((_ : Int) == _) = true then _ else _); first | (with_reducible refine ieq_f (by omega) ?_) | (with_reducible refine ieq_t (by omega) ?_))
  | ((with_reducible show if decide _ = true then _ else _); first | (with_reducible refine dec_f (by omega) ?_) | (with_reducible refine dec_t (by omega) ?_)))
  (k_with "subscriptTail" => ((with_reducible show wpAny _ _ (subscriptTail (PySem.Expr.List _ _) _ _ _) _ _ _); k_dflt (refine kba_turn (value' := PySem.Expr.Name (PySem.Str.ofString "_") ⟨0, 0, 0, 0⟩) (fun _ => rfl) ?_); (refine stuck_at ?_)))
  trivial
noncomputable def sgn (k : Int) : Str := Txt.item (Str.ofString ".*?[]!-a^\\~") k
/-- an item: its pattern, its name -/
noncomputable def itemF (x : Int) (first : Bool) : Str × Str :=
  if x.fmod 20 = 13 then (Str.ofString "[!" ++ sgn ((x.fdiv 20).fmod 11) ++ Str.ofString "]", Str.ofString "N" ++ sgn ((x.fdiv 20).fmod 11))
  else if 10 < x.fmod 20 then
    (if x.fmod 20 = 11 then (Txt.mul (Str.ofString "*") (1 + ((x.fdiv 20).fmod 4).fmod 3), Str.ofString "S")
     else if x.fmod 20 = 12 then (Str.ofString "?", Str.ofString "Q")
     else if x.fmod 20 = 14 then (Str.ofString "[b-a]", Str.ofString "0")
     else if x.fmod 20 = 15 then (Str.ofString "[!b-a]", Str.ofString "A")
     else (Str.ofString "[a-]", Str.ofString "P"))
  else
    if sgn (x.fmod 20) == Str.ofString "!" then (sgn (x.fmod 20), sgn (x.fmod 20))
    else
      let d := if (x.fdiv 20).fmod 4 = 0 ∧ (Txt.contains (Str.ofString "*?[") (sgn (x.fmod 20)) = true ∨ (first = true ∧ (sgn (x.fmod 20) == Str.ofString ".") = true)) then 1 else (x.fdiv 20).fmod 4
      if d = 0 then (sgn (x.fmod 20), sgn (x.fmod 20))
      else if d = 1 ∨ (d = 2 ∧ (sgn (x.fmod 20) == Str.ofString "]") = true) then (Str.ofString "[" ++ sgn (x.fmod 20) ++ Str.ofString "]", sgn (x.fmod 20))
      else if d = 2 then (Str.ofString "[" ++ sgn (x.fmod 20) ++ Str.ofString "-" ++ sgn (x.fmod 20) ++ Str.ofString "b-a]", sgn (x.fmod 20))
      else (Str.ofString "[" ++ sgn (x.fmod 20) ++ Str.ofString "b-a]", sgn (x.fmod 20))
theorem li_mk {news : List (Addr × Obj)} {p : Str × Str} {a b : Str} {D : Addr} {t1 t2 : Tok} {n : Nat} (e : p = (a, b)) (l : ∀ q ∈ news, q.1 < D) :
    LiO news [p.1, p.2] ((D, listOf #[.str a t1, .str b t2] n) :: news) (.ref D) := ⟨D, [.str a t1, .str b t2], n, rfl, rfl, by rw [e]; exact .cons _ _ (.cons _ _ .nil), allLt_of l⟩
theorem li_mk2 {news : List (Addr × Obj)} {p : Str × Str} {a b : Str} {D : Addr} {t1 t2 : Tok} {n : Nat} (e : p = (a, b)) (l : AllLt D news) :
    LiO news [p.1, p.2] ((D, listOf #[.str a t1, .str b t2] n) :: news) (.ref D) := ⟨D, [.str a t1, .str b t2], n, rfl, rfl, by rw [e]; exact .cons _ _ (.cons _ _ .nil), l⟩
theorem mw_P10_3 : True := by
  (k_with "Mlt" => first | exact And.right (by assumption) | exact And.right (And.right (by assumption)) | exact And.right (And.right (And.right (by assumption))) | exact And.right (And.right (And.right (And.right (by assumption)))) | exact And.right (And.right (And.right (And.right (And.right (by assumption))))))
  trivial
theorem item_does (w : World) (mean : ExcName → Option Value) (mg mb : Str → Option Value) (news : List (Addr × Obj)) (x : Int) (t : Tok) (first : Bool) (hx : x.fmod 20 < 17) :
  Does PySem.Challenge.rw_rx0110_02.row.prog w (hd.heap_39 w.params) topProg (looseW hd.view_39 [Str.ofString "_twin_re_1", Str.ofString "_special_chars_map"] ++ (recsOf hd.view_39).map (fun x => x.name) ++ (litsOf hd.view_39).map (fun x => x.1) ++ (clssOf hd.view_39 (looseW hd.view_39 [Str.ofString "_twin_re_1", Str.ofString "_special_chars_map"])).map (fun x => x.name)) mean mg mb 184 1 news [Value.int x t, Value.bool first] (LiO news [(itemF x first).1, (itemF x first).2]) := by
  k_fill
  unfold Does
  intro dp un gd cn cs a ccd cl outer A₀ base h₀ L m s Q E B F X N T hk hd hu hret
  refine wpAny_call ?_
  (k_dflt cell_enter)
  have h0 : 0 ≤ x.fmod 20 := Int.fmod_nonneg_of_pos _ (by decide)
  by_cases h13 : x.fmod 20 = 13
  · k_steps
    exact hret _ _ _ _ (li_mk (by rw [itemF, if_pos h13]) (by assumption)) (by assumption) (by assumption)
  by_cases h10 : 10 < x.fmod 20
  · k_steps
    unfold Stuck
    have hk : x.fmod 20 = 11 ∨ x.fmod 20 = 12 ∨ x.fmod 20 = 14 ∨ x.fmod 20 = 15 ∨ x.fmod 20 = 16 := by omega
    rcases hk with hk | hk | hk | hk | hk
    · refine item_vals 0 (by assumption) (.head _) (by omega) (by decide) rfl ?_
      k_unmd
      k_steps
      refine hret _ _ _ _ (li_mk (by rw [itemF, if_neg h13, if_pos h10, if_pos hk]) (by assumption)) (by assumption) (by walk_at "Mdrop")
    · refine item_vals 1 (by assumption) (.head _) (by omega) (by decide) rfl ?_
      k_unmd
      k_steps
      refine hret _ _ _ _ (li_mk2 (by rw [itemF, if_neg h13, if_pos h10, if_neg (by omega), if_pos hk]) (by walk_at "Mlt")) (by assumption) (by walk_at "Mdrop")
    · refine item_vals 3 (by assumption) (.head _) (by omega) (by decide) rfl ?_
      k_unmd
      k_steps
      refine hret _ _ _ _ (li_mk2 (by rw [itemF, if_neg h13, if_pos h10, if_neg (by omega), if_neg (by omega), if_pos hk]) (by walk_at "Mlt")) (by assumption) (by walk_at "Mdrop")
    · refine item_vals 4 (by assumption) (.head _) (by omega) (by decide) rfl ?_
      k_unmd
      k_steps
      refine hret _ _ _ _ (li_mk2 (by rw [itemF, if_neg h13, if_pos h10, if_neg (by omega), if_neg (by omega), if_neg (by omega), if_pos hk]) (by walk_at "Mlt")) (by assumption) (by walk_at "Mdrop")
    · refine item_vals 5 (by assumption) (.head _) (by omega) (by decide) rfl ?_
      k_unmd
      k_steps
      refine hret _ _ _ _ (li_mk2 (by rw [itemF, if_neg h13, if_pos h10, if_neg (by omega), if_neg (by omega), if_neg (by omega), if_neg (by omega)]) (by walk_at "Mlt")) (by assumption) (by walk_at "Mdrop")
  · k_steps
    all_goals (refine hret _ _ _ _ (li_mk ?_ (by assumption)) (by assumption) (by assumption); clear hret; rw [itemF, if_neg h13, if_neg h10])
    all_goals (simp only [sgn, Txt.contains, *]; try simp)
    all_goals ((repeat' split) <;> first | rfl | (exfalso; omega) | simp_all)
end

section
open PySem PySem.W PyProof.Rows PySem.Calls PyProof.Rows.LCg
noncomputable abbrev Row := List (Str × Str)
/-- the item that an int puts behind a row -/
noncomputable def itemR (x : Int) (last : Row) : Str × Str :=
  if ((itemF x last.isEmpty).2 == Str.ofString "S") = true ∧ (match last.getLast? with | none => false | some q => [Str.ofString "S", Str.ofString ""].any (· == q.2)) = true then ((itemF x last.isEmpty).1, Str.ofString "") else itemF x last.isEmpty
noncomputable def rowStep (st : List Row × Row) (x : Int) : List Row × Row :=
  if x.fmod 20 < 17 then (st.1, st.2 ++ [itemR x st.2])
  else if st.2.isEmpty then st else (st.1 ++ [st.2], [])
noncomputable def dfltRows : List Row := [[(Str.ofString "[.]", Str.ofString "."), (Str.ofString ".", Str.ofString ".")]]
noncomputable def rowsF (xs : List Int) : List Row :=
  let st := xs.foldl rowStep ([], [])
  if st.2.isEmpty then (if st.1.isEmpty then dfltRows else st.1) else st.1 ++ [st.2]
/-- items on the ledger -/
inductive ItsAt (l : List (Addr × Obj)) : List Value → Row → Prop
  | nil : ItsAt l [] []
  | cons {D : Addr} {p q : Str} {t u : Tok} {n : Nat} {vs : List Value} {r : Row} (h : (D, listOf #[.str p t, .str q u] n) ∈ l) (hr : ItsAt l vs r) : ItsAt l (.ref D :: vs) ((p, q) :: r)
/-- rows on the ledger -/
inductive RowsAt (l : List (Addr × Obj)) : List Value → List Row → Prop
  | nil : RowsAt l [] []
  | cons {D : Addr} {n : Nat} {vs ws : List Value} {row : Row} {r : List Row} (h : (D, listOf vs.toArray n) ∈ l) (hi : ItsAt l vs row) (hr : RowsAt l ws r) : RowsAt l (.ref D :: ws) (row :: r)
theorem ItsAt.mono {l l' : List (Addr × Obj)} (h : ∀ p ∈ l, p ∈ l') : ∀ {vs r}, ItsAt l vs r → ItsAt l' vs r
  | _, _, .nil => .nil
  | _, _, .cons a b => .cons (h _ a) (b.mono h)
theorem RowsAt.mono {l l' : List (Addr × Obj)} (h : ∀ p ∈ l, p ∈ l') : ∀ {vs r}, RowsAt l vs r → RowsAt l' vs r
  | _, _, .nil => .nil
  | _, _, .cons a b c => .cons (h _ a) (b.mono h) (c.mono h)
theorem ItsAt.snoc {l : List (Addr × Obj)} {D : Addr} {p q : Str} {t u : Tok} {n : Nat} (h : (D, listOf #[.str p t, .str q u] n) ∈ l) : ∀ {vs r}, ItsAt l vs r → ItsAt l (vs ++ [.ref D]) (r ++ [(p, q)])
  | _, _, .nil => .cons h .nil
  | _, _, .cons a b => .cons a (b.snoc h)
theorem RowsAt.snoc {l : List (Addr × Obj)} {D : Addr} {n : Nat} {vs : List Value} {row : Row} (h : (D, listOf vs.toArray n) ∈ l) (hi : ItsAt l vs row) : ∀ {ws r}, RowsAt l ws r → RowsAt l (ws ++ [.ref D]) (r ++ [row])
  | _, _, .nil => .cons h hi .nil
  | _, _, .cons a b c => .cons a b (c.snoc h hi)
theorem RowsAt.app {l : List (Addr × Obj)} : ∀ {ws r ws' r'}, RowsAt l ws r → RowsAt l ws' r' → RowsAt l (ws ++ ws') (r ++ r')
  | _, _, _, _, .nil, h => h
  | _, _, _, _, .cons a b c, h => .cons a b (c.app h)
theorem ItsAt.len {l : List (Addr × Obj)} : ∀ {vs r}, ItsAt l vs r → vs.length = r.length
  | _, _, .nil => rfl
  | _, _, .cons _ b => congrArg (· + 1) b.len
theorem RowsAt.len {l : List (Addr × Obj)} : ∀ {vs r}, RowsAt l vs r → vs.length = r.length
  | _, _, .nil => rfl
  | _, _, .cons _ _ b => congrArg (· + 1) b.len
theorem ItsAt.last {l : List (Addr × Obj)} {vs : List Value} {r : Row} (h : ItsAt l vs r) : (vs = [] ∧ r = []) ∨ ∃ ws D p q t u n r', vs = ws ++ [.ref D] ∧ r = r' ++ [(p, q)] ∧ (D, listOf #[.str p t, .str q u] n) ∈ l ∧ ItsAt l ws r' := by
  induction h with
  | nil => exact .inl ⟨rfl, rfl⟩
  | cons a b ih =>
    rcases ih with ⟨rfl, rfl⟩ | ⟨ws, D', p', q', t', u', n', r', rfl, rfl, hm, hw⟩
    · exact .inr ⟨[], _, _, _, _, _, _, [], rfl, rfl, a, .nil⟩
    · exact .inr ⟨_, D', p', q', t', u', n', _, rfl, rfl, hm, .cons a hw⟩
/-- as Does, of the caller's base too -/
noncomputable def DoesP (Pre : Heap → Prop) (prog : Program) (w : World) (K : Frag) (p : Program) (loose : List Str) (mean : ExcName → Option Value) (mg mb : Str → Option Value) (f : Addr) (dep : Nat)
    (news : List (Addr × Obj)) (vs : List Value) (Ro : List (Addr × Obj) → Value → Prop) : Prop :=
  ∀ (dp un : Nat) (gd : Option (List Code)) (cn : Str) (cs : Scope) (a : Addr) (ccd : Value) (cl : List (Str × Addr)) (outer : List Env) (A₀ : Around) (base h₀ : Heap) (L : Addr) (m : Str → Option Value) (s : Shared) (Q E : Value → Shared → Prop),
    Pre h₀ → Below A₀ base outer h₀ → Fr h₀ L s.heap m → K.In h₀ → News h₀ L s.heap news → Top p loose mean mg mb h₀ → cs.kind = .function → dp + dep < recursionLimit → un + 8 * dep < cLine →
    (∀ (news' : List (Addr × Obj)) (r : Value) (h' : Heap) (tk' : Nat), Ro news' r → Fr h₀ L h' m → News h₀ L h' news' → Q r { s with heap := h', toks := tk' }) →
      wpAny (model prog w) (ktrTop dp un gd cn cs L a ccd cl outer) (call (.ref f) vs) Q E s
theorem ints_item : ∀ {vs : List Value} {ns : List Int}, IntsAre vs ns → ∀ (i : Nat) (v : Value), vs[i]? = some v → ∃ x t, v = .int x t ∧ ns[i]? = some x
  | _, _, .nil, _, _, h => by simp at h
  | _, _, .cons x t _, 0, v, h => by cases h; exact ⟨x, t, rfl, rfl⟩
  | _, _, .cons _ _ r, i + 1, v, h => ints_item r i v (by simpa using h)
/-- the rows' state -/
structure RwS where
  R : Addr
  refs : List Value
  n : Nat
  dn : List Row
  lp : List (Addr × Obj)
  lv : List Value
  lr : List Row
  Lr : Addr
  its : List Value
  k : Nat
  last : Row
  rest : List (Addr × Obj)
/-- the row before an empty last one -/
inductive LpOk (rest : List (Addr × Obj)) : List (Addr × Obj) → List Value → List Row → Prop
  | none : LpOk rest [] [] []
  | one {P : Addr} {vs : List Value} {k : Nat} {row : Row} (hi : ItsAt rest vs row) (hne : row ≠ []) (ho : ∀ q ∈ rest, q.1 ≠ P) : LpOk rest [(P, listOf vs.toArray k)] [.ref P] [row]
theorem RowsAt.at {l : List (Addr × Obj)} : ∀ {ws r}, RowsAt l ws r → ∀ (i : Nat) v, ws[i]? = some v → ∃ D n vs row, v = .ref D ∧ r[i]? = some row ∧ (D, listOf vs.toArray n) ∈ l ∧ ItsAt l vs row
  | _, _, .nil, i, v, h => by simp at h
  | _, _, .cons a b c, 0, v, h => by cases h; exact ⟨_, _, _, _, rfl, rfl, a, b⟩
  | _, _, .cons a b c, i + 1, v, h => c.at i v (by simpa using h)
theorem filt_last {A : List Value} {b : Value} {c : Bool} : (((A ++ [b]).zipIdx.filter fun p => if p.2 < A.length then true else c).map (·.1)) = A ++ (if c then [b] else []) := by
  rw [List.zipIdx_append, List.filter_append, List.map_append]
  congr 1
  · rw [List.filter_eq_self.mpr]
    · simp
    · intro p hp
      have := (List.mem_zipIdx hp).2.1
      rw [if_pos (by omega)]
  · cases c <;> simp
theorem off1_mem {D : Addr} : ∀ {l : List (Addr × Obj)}, Off1 D l → ∀ q ∈ l, q.1 ≠ D
  | [], _, _, h => nomatch h
  | _ :: _, x, q, h => by
    rcases List.mem_cons.mp h with rfl | h
    · exact x.1
    · exact off1_mem x.2 q h
theorem ItsAt.empty {l : List (Addr × Obj)} {vs : List Value} {r : Row} (h : ItsAt l vs r) : vs.isEmpty = r.isEmpty := by cases h <;> rfl
theorem LpOk.full {rest lp : List (Addr × Obj)} {lv : List Value} {lr : List Row} (h : LpOk rest lp lv lr) : ∀ r ∈ lr, r ≠ [] := by
  intro r hr
  cases h with
  | none => cases hr
  | one hi hne ho => rw [List.mem_singleton.mp hr]; exact hne
theorem LpOk.rows {rest lp : List (Addr × Obj)} {lv : List Value} {lr : List Row} (h : LpOk rest lp lv lr) : RowsAt (lp ++ rest) lv lr := by
  cases h with
  | none => exact .nil
  | one hi hne ho => exact .cons (.head _) (hi.mono fun z hz => .tail _ hz) .nil
noncomputable abbrev RwS.led (c : RwS) : List (Addr × Obj) := (c.R, listOf (c.refs ++ c.lv ++ [Value.ref c.Lr]).toArray c.n) :: (c.Lr, listOf c.its.toArray c.k) :: (c.lp ++ c.rest)
structure RwOk (xs : List Int) (src : Addr × Obj) (news : List (Addr × Obj)) (i : Nat) (c : RwS) : Prop where
  st : (xs.take i).foldl rowStep ([], []) = (c.dn ++ c.lr, c.last)
  rows : RowsAt c.rest c.refs c.dn
  lp : LpOk c.rest c.lp c.lv c.lr
  its : ItsAt c.rest c.its c.last
  src : src ∈ c.rest
  sub : ∀ p ∈ news, p ∈ c.rest
  offR : ∀ q ∈ (c.Lr, listOf c.its.toArray c.k) :: (c.lp ++ c.rest), q.1 ≠ c.R
  offL : ∀ q ∈ c.lp ++ c.rest, q.1 ≠ c.Lr
  full : ∀ r ∈ c.dn, r ≠ []
  one : c.last ≠ [] → c.lr = []
  two : c.last = [] → c.lr = [] → c.dn = []
  small : c.dn.length + c.lr.length + c.last.length ≤ i
theorem take_step {α β : Type} {f : β → α → β} {b : β} {l : List α} {i : Nat} {x : α} (h : l[i]? = some x) : (l.take (i + 1)).foldl f b = f ((l.take i).foldl f b) x := by
  rw [List.take_add_one, h, List.foldl_append]; rfl
theorem rw_same {xs : List Int} {src : Addr × Obj} {news : List (Addr × Obj)} {i : Nat} {c : RwS} {x : Int} (h : RwOk xs src news i c) (hx : xs[i]? = some x) (h17 : ¬ x.fmod 20 < 17) (he : c.its.isEmpty = true) : RwOk xs src news (i + 1) c := by
  obtain ⟨h1, h2, h3, h4, h5, h6, h7, h8, h9, h10, h11, h12⟩ := h
  refine ⟨?_, h2, h3, h4, h5, h6, h7, h8, h9, h10, h11, by omega⟩
  have hl := h4.len
  have e : c.last.isEmpty = true := by
    cases hc : c.last with
    | nil => rfl
    | cons a b => rw [hc, List.isEmpty_iff.mp he] at hl; cases hl
  rw [take_step hx, h1, rowStep, if_neg h17, if_pos e]
theorem rw_new {xs : List Int} {src : Addr × Obj} {news : List (Addr × Obj)} {i : Nat} {c : RwS} {x : Int} {D : Addr} {kd : Nat} (h : RwOk xs src news i c) (hx : xs[i]? = some x) (h17 : ¬ x.fmod 20 < 17) (he : c.its.isEmpty = false) (hD : ∀ q ∈ c.led, q.1 ≠ D) :
    RwOk xs src news (i + 1) ⟨c.R, c.refs, c.n + 1, c.dn, [(c.Lr, listOf c.its.toArray c.k)], [.ref c.Lr], [c.last], D, [], kd, [], c.rest⟩ ∧ c.lv = [] ∧ c.lp = [] := by
  obtain ⟨cR, crefs, cn, cdn, clp, clv, clr, cLr, cits, ck, clast, crest⟩ := c
  obtain ⟨h1, h2, h3, h4, h5, h6, h7, h8, h9, h10, h11, h12⟩ := h
  dsimp only at h1 h2 h3 h4 h5 h6 h7 h8 h9 h10 h11 h12 he hD ⊢
  have hl := h4.len
  have hne : clast ≠ [] := by
    intro e
    rw [e] at hl
    rw [List.length_eq_zero_iff.mp hl] at he
    cases he
  have e1 := h10 hne
  have e2 : clp = [] ∧ clv = [] := by
    subst e1
    cases h3
    exact ⟨rfl, rfl⟩
  refine ⟨⟨?_, h2, .one h4 hne (fun q hq => h8 q (List.mem_append.mpr (.inr hq))), .nil, h5, h6, ?_, ?_, h9, fun e => absurd rfl e, (fun _ e => nomatch e), ?_⟩, e2.2, e2.1⟩
  · have e : clast.isEmpty = false := by
      cases hc : clast with
      | nil => exact absurd hc hne
      | cons a b => rfl
    rw [take_step hx, h1, rowStep, if_neg h17, e, e1]
    simp
  · intro q hq
    rcases List.mem_cons.mp hq with rfl | hq
    · exact fun e => hD _ (.head _) e.symm
    · rcases List.mem_cons.mp hq with rfl | hq
      · exact h7 _ (.head _)
      · exact h7 _ (.tail _ (List.mem_append.mpr (.inr hq)))
  · intro q hq
    rcases List.mem_cons.mp hq with rfl | hq
    · exact hD _ (.tail _ (.head _))
    · exact hD _ (.tail _ (.tail _ (List.mem_append.mpr (.inr hq))))
  · rw [e1] at h12
    have : 0 < clast.length := List.length_pos_iff.mpr hne
    simp at h12 ⊢
    omega
theorem rw_item {xs : List Int} {src : Addr × Obj} {news : List (Addr × Obj)} {i : Nat} {c : RwS} {x : Int} {D : Addr} {kd : Nat} {p q : Str} {t u : Tok} (h : RwOk xs src news i c) (hx : xs[i]? = some x) (h17 : x.fmod 20 < 17) (hpq : (p, q) = itemR x c.last) (hD : ∀ q ∈ c.led, q.1 ≠ D) :
    RwOk xs src news (i + 1) ⟨c.R, c.refs ++ c.lv, c.n, c.dn ++ c.lr, [], [], [], c.Lr, c.its ++ [.ref D], c.k + 1, c.last ++ [(p, q)], (D, listOf #[.str p t, .str q u] kd) :: (c.lp ++ c.rest)⟩ := by
  obtain ⟨cR, crefs, cn, cdn, clp, clv, clr, cLr, cits, ck, clast, crest⟩ := c
  obtain ⟨h1, h2, h3, h4, h5, h6, h7, h8, h9, h10, h11, h12⟩ := h
  dsimp only at h1 h2 h3 h4 h5 h6 h7 h8 h9 h10 h11 h12 hpq hD ⊢
  have sub : ∀ z ∈ crest, z ∈ (D, listOf #[.str p t, .str q u] kd) :: (clp ++ crest) := fun z hz => .tail _ (List.mem_append.mpr (.inr hz))
  refine ⟨?_, (h2.mono sub).app ?_, .none, (h4.mono sub).snoc (.head _), sub _ h5, fun z hz => sub _ (h6 z hz), ?_, ?_, ?_, fun _ => rfl, ?_, ?_⟩
  · rw [take_step hx, h1, rowStep, if_pos h17, hpq]
    simp
  · exact h3.rows.mono fun z hz => .tail _ hz
  · intro z hz
    rcases List.mem_cons.mp hz with rfl | hz
    · show cLr ≠ cR
      exact h7 (cLr, _) (.head _)
    · rcases List.mem_cons.mp hz with rfl | hz
      · exact fun e => hD _ (.head _) e.symm
      · exact h7 _ (.tail _ hz)
  · intro z hz
    rcases List.mem_cons.mp hz with rfl | hz
    · exact fun e => hD _ (.tail _ (.head _)) e.symm
    · exact h8 _ hz
  · intro r hr
    rcases List.mem_append.mp hr with hr | hr
    · exact h9 r hr
    · exact h3.full r hr
  · intro e
    simp at e
  · simp at h12 ⊢
    omega
theorem it_same1 {x : Int} {last : Row} {e : Bool} (he : e = last.isEmpty) (h : ((itemF x e).2 == Str.ofString "S") = false) : ((itemF x e).1, (itemF x e).2) = itemR x last := by
  subst he
  unfold itemR
  rw [if_neg (fun q => by rw [h] at q; exact Bool.false_ne_true q.1)]
theorem it_same0 {x : Int} : ((itemF x ([] : List Value).isEmpty).1, (itemF x ([] : List Value).isEmpty).2) = itemR x [] := by
  unfold itemR
  rw [if_neg (fun q => Bool.false_ne_true q.2)]
  rfl
theorem it_same2 {x : Int} {last r : Row} {p q : Str} {e : Bool} (he : e = last.isEmpty) (hl : last = r ++ [(p, q)]) (h : ([Str.ofString "S", Str.ofString ""].any (· == q)) = false) : ((itemF x e).1, (itemF x e).2) = itemR x last := by
  subst he
  unfold itemR
  have e : last.getLast? = some (p, q) := by rw [hl]; simp
  rw [e, if_neg (fun z => by have z2 : ([Str.ofString "S", Str.ofString ""].any (· == q)) = true := z.2; rw [h] at z2; exact Bool.false_ne_true z2)]
theorem it_chg {x : Int} {last r : Row} {p q : Str} {e : Bool} (he : e = last.isEmpty) (hl : last = r ++ [(p, q)]) (h : ([Str.ofString "S", Str.ofString ""].any (· == q)) = true) (h1 : ((itemF x e).2 == Str.ofString "S") = true) : ((itemF x e).1, Str.ofString "") = itemR x last := by
  subst he
  unfold itemR
  have e : last.getLast? = some (p, q) := by rw [hl]; simp
  rw [e, if_pos ⟨h1, h⟩]
theorem allLt_app {d : Nat} {l l' : List (Addr × Obj)} (h : AllLt d (l ++ l')) : AllLt d l := allLt_of fun p hp => ktn_ltOf h p (List.mem_append.mpr (.inl hp))
theorem mem_two {α : Type} {a b p : α} {l l' : List α} (h : p ∈ a :: b :: l) : p ∈ a :: b :: (l ++ l') := by
  rcases List.mem_cons.mp h with rfl | h
  · exact .head _
  · rcases List.mem_cons.mp h with rfl | h
    · exact .tail _ (.head _)
    · exact .tail _ (.tail _ (List.mem_append.mpr (.inl h)))
theorem app_vals {prog : Program} {w : World} {A : Around} {E : Value → Shared → Prop} {s : Shared} {h₀ : Heap} {L D : Addr} {m : Str → Option Value} {nw nw' : List (Addr × Obj)} {vs : List Value} {v : Value} {n : Nat} {Q : Value → Shared → Prop} (F : Fr h₀ L s.heap m) (N : News h₀ L s.heap nw) (hb : vs.length ≤ 1000000)
    (U : Upd D (listOf vs.toArray n) (listOf (vs ++ [v]).toArray (n + 1)) nw nw') (h : ∀ h', Fr h₀ L h' m → News h₀ L h' nw' → Q .none { s with heap := h' }) : wpAny (model prog w) A (call (.builtin "list.append") [.ref D, v]) Q E s := by
  refine append_K (its := vs.toArray) (n := n) F N (by simpa using U) h (by have := sizeLine_eq; simp; omega)
structure ItC where
  D : Addr
  p : Str
  q : Str
  t : Tok
  u : Tok
  n : Nat
theorem it_meet {s : Shared} {h₀ : Heap} {L R Lr : Addr} {m₀ m' : Str → Option Value} {h' : Heap} {tk : Nat} {nw base tail : List (Addr × Obj)} {D : Addr} {p q : Str} {t u : Tok} {n : Nat} {x : Int} {last : Row} (F : Fr h₀ L h' m') (N : News h₀ L h' nw)
    (hk : m' (Str.ofString "item") = some (.ref D)) (hq : (p, q) = itemR x last) (hlt : (@LT.lt Nat _ R D) ∧ (@LT.lt Nat _ Lr D) ∧ AllLt D tail) (hm : (D, listOf #[.str p t, .str q u] n) ∈ nw) (hs : ∀ z ∈ base, z ∈ nw) (hz : ∀ z, z ≠ Str.ofString "item" → m' z = m₀ z) :
    MeetK s h₀ L (fun c : ItC => (c.D, listOf #[.str c.p c.t, .str c.q c.u] c.n) :: base) (fun c => [(Str.ofString "item", .ref c.D)]) [] m₀ (fun c => (c.p, c.q) = itemR x last ∧ (@LT.lt Nat _ R c.D) ∧ (@LT.lt Nat _ Lr c.D) ∧ AllLt c.D tail) { s with heap := h', toks := tk } :=
  meetK (⟨D, p, q, t, u, n⟩ : ItC) F N (List.forall_mem_cons.mpr ⟨hm, hs⟩) (List.forall_mem_cons.mpr ⟨hk, fun _ h => nomatch h⟩) (fun z h _ => hz z (h _ (.head _))) ⟨hq, hlt⟩
theorem mw_P11_0 : True := by
  k_with_none
  trivial
theorem mw_P11_1 : True := by
  (k_with "Mdrop" => first | assumption | (refine' cb_drop ?cbN ?cbS; (case cbN => assumption); (case cbS => kcj_all)))
  trivial
theorem mw_P11_2 : True := by
  (k_with "Muse" => (
        (case k1 => first | k_asm | ktn_no "use: the frames below")
        (case k2 => first | k_asm | ktn_no "use: the frame")
        (case k3 => first | k_asm | ktn_no "use: the written part")
        (case k4 => first | k_asm | ktn_no "use: the ledger")
        (case k5 => first | k_asm | ktn_no "use: the top's facts")
        (case k6 => first | exact rfl | assumption | ktn_no "use: the caller is no def")
        (case k7 => first | ktr_room | ktn_no "use: the frames' room")
        (case k8 => first | ktr_units | ktn_no "use: the C units")))
  (k_with "exec For Name Subscript cons nil" => (k_here; refine stuck_at ?_))
  (k_with "pyIter ref" => (refine stuck_at ?_))
  (k_with "call ref" => ((with_reducible show wpAny _ _ (call (Value.ref 184) _) _ _ _); (refine stuck_at ?_)))
  (k_with "exec If BoolOp cons nil" => (refine stuck_at ?_))
  (k_with "compareOp Eq ref ref" => (k_here; (with_reducible show wpAny _ _ (compareOp CmpOp.Eq (Value.ref _) (Value.ref _)) _ _ _); k_dflt (refine' eq_nil ?k1 ?k2 ?k3 ?k4 ?_; (case k1 => k_asm); (case k2 => k_mem); (case k3 => k_mem); (case k4 => units_room); k_whole)))
  (k_with "compareOp NotEq ref ref" => (k_here; (with_reducible show wpAny _ _ (compareOp CmpOp.NotEq (Value.ref _) (Value.ref _)) _ _ _); k_dflt (refine' ne_nil ?k1 ?k2 ?k3 ?k4 ?_; (case k1 => k_asm); (case k2 => first | k_mem | assumption | exact .tail _ (by assumption)); (case k3 => k_mem); (case k4 => units_room); k_whole)))
  (k_with "subscriptTail Name UnaryOp ref int" => (k_here; (with_reducible show wpAny _ _ (subscriptTail _ _ (Value.ref _) (Value.int _ _)) _ _ _); k_dflt (refine' item_snoc ?k1 ?k2 ?k3 ?_; (case k1 => k_asm); (case k2 => k_mem); (case k3 => assumption); k_whole)))
  (k_with "Msub" => (intro _ hp; first | exact hp | exact .tail _ hp | exact .tail _ (.tail _ hp) | exact .tail _ (.tail _ (.tail _ hp)) | exact .tail _ (.tail _ (.tail _ (.tail _ hp))) | exact .tail _ (.tail _ (.tail _ (.tail _ (.tail _ hp)))) | exact .tail _ (.tail _ (.tail _ (.tail _ (.tail _ (.tail _ hp))))) | exact .tail _ (.tail _ (.tail _ (.tail _ (.tail _ (.tail _ (.tail _ hp))))))))
  (k_with "Mright" => first | assumption | exact And.right (by assumption) | exact And.right (And.right (by assumption)) | exact And.right (And.right (And.right (by assumption))) | exact And.right (And.right (And.right (And.right (by assumption)))) | exact And.right (And.right (And.right (And.right (And.right (by assumption))))))
  (k_with "Mitend" => (refine' it_meet ?hF ?hN ?hk ?hq ?hlt ?hm ?hs ?hz; (case hF => assumption); (case hN => assumption); (case hk => rfl); (case hs => walk_at "Msub"); (case hz => (intro _ hz; (try dsimp only [kstB]); repeat (first | rfl | (refine (if_neg (by simp [hz])).trans ?_))))))
  trivial
local macro_rules | `(tactic| k_all) => `(tactic| assumption)
theorem mw_P11_3 : True := by
  (k_with "call builtin:list.append" => (k_here; k_dflt (refine' app_vals ?k1 ?k2 ?k3 ?k4 ?_; (case k1 => k_asm); (case k2 => k_asm); (case k3 => first | assumption | (simp only [List.length_append, List.length_singleton]; omega)); (case k4 => k_upd); k_whole); intro _ _ _))
  (k_with "Mitem" => (k_here; (with_reducible show wpAny _ _ (subscriptTail _ _ (Value.ref _) (Value.int _ _)) _ _ _); k_dflt (first
  | (refine' item_vals (vs := [_, _]) 1 ?k1 ?k2 ?k3 ?k4 ?k5 ?_; (case k1 => k_asm); (case k2 => first | k_mem | exact .tail _ (by assumption) | exact .tail _ (.tail _ (by assumption)) | exact .tail _ (.tail _ (.tail _ (by assumption))) | exact .tail _ (.tail _ (.tail _ (.tail _ (by assumption)))) | exact .tail _ (.tail _ (.tail _ (.tail _ (.tail _ (by assumption))))) | exact .tail _ (.tail _ (.tail _ (.tail _ (.tail _ (.tail _ (by assumption))))))); (case k3 => rfl); (case k4 => decide); (case k5 => rfl); k_whole)
  | (refine' item_vals (vs := [_, _]) 0 ?k1 ?k2 ?k3 ?k4 ?k5 ?_; (case k1 => k_asm); (case k2 => k_mem); (case k3 => rfl); (case k4 => decide); (case k5 => rfl); k_whole)); (try dsimp only)))
  (k_with "subscriptTail Name Constant ref int" => walk_at "Mitem")
  (k_with "subscriptTail" => ((with_reducible show wpAny _ _ (subscriptTail (PySem.Expr.Subscript _ _ _) _ _ _) _ _ _); k_dflt (refine kba_turn (value' := PySem.Expr.Name (PySem.Str.ofString "_") ⟨0, 0, 0, 0⟩) (fun _ => rfl) ?_)))
  (k_with "compareOp In str ref" => (k_here; k_dflt (refine' in_strs ?k1 ?k2 ?k3 ?_; (case k1 => k_asm); (case k2 => k_mem); (case k3 => exact .cons _ _ (.cons _ _ .nil)); k_whole)))
  (k_with "CompSrcT" => (refine stuck_at ?_))
  (k_with "eval ListComp" => (k_here; k_dflt (refine LCt.ListComp_T (F₀ := by k_asm) (by rfl) (by decide) (by rfl) (by decide) (by rfl) ?_)))
  (k_with "truthy ref" => (k_here; (with_reducible show wpAny _ _ (truthy (Value.ref _)) _ _ _); k_dflt (refine' tru_snoc ?k1 ?k2 ?k3 ?_; (case k1 => k_asm); (case k2 => k_mem); (case k3 => omega); k_whole)))
  trivial
theorem rows_does (w : World) (mean : ExcName → Option Value) (mg mb : Str → Option Value) (news : List (Addr × Obj)) (sa : Addr) (sv : List Value) (xs : List Int) (hI : IntsAre sv xs) (hx : xs.length ≤ 63) :
  DoesP (fun h₀ => h₀.IsList sa sv.toArray) PySem.Challenge.rw_rx0110_02.row.prog w (hd.heap_39 w.params) topProg (looseW hd.view_39 [Str.ofString "_twin_re_1", Str.ofString "_special_chars_map"] ++ (recsOf hd.view_39).map (fun x => x.name) ++ (litsOf hd.view_39).map (fun x => x.1) ++ (clssOf hd.view_39 (looseW hd.view_39 [Str.ofString "_twin_re_1", Str.ofString "_special_chars_map"])).map (fun x => x.name)) mean mg mb 189 2 news [Value.ref sa]
    (fun n r => ∃ R refs k Lr its j rest dn last, r = .ref R ∧ n = (R, listOf (refs ++ [Value.ref Lr]).toArray k) :: (Lr, listOf its.toArray j) :: rest ∧ RowsAt rest refs dn ∧ ItsAt rest its last ∧ dn ++ [last] = rowsF ((xs.drop 1).take 12) ∧ (∀ p ∈ news, p ∈ rest) ∧ (∀ q ∈ rest, q.1 ≠ R ∧ q.1 ≠ Lr) ∧ Lr ≠ R) := by
  k_fill
  unfold DoesP
  intro dp un gd cn cs a ccd cl outer A₀ base h₀ L m s Q E hL B F X N T hk hd hu hret
  refine wpAny_call ?_
  (k_dflt cell_enter)
  rename Fr h₀ L _ m => FG9
  have hL2 := hL.at fun o e => FG9.keep _ _ e
  k_steps
  rename_i g1 L1 h1 B1 X1 T1 Lr0 h2 l1 R0 h3 l2 h4 F1 N1
  unfold Stuck
  refine For_invVF F1 rfl rfl ?_
  (k_unmd)
  k_steps
  rename_i D1 dv h5 F2 N2 hI2 hC2 hD2 l3
  unfold Stuck
  have eys : List.take (min 13 xs.length - 1) (List.drop 1 xs) = (xs.drop 1).take 12 := by
    exact cut_mid xs 1 12
  rw [eys] at hI2
  have hdl := hI2.length
  have hyl : ((xs.drop 1).take 12).length ≤ 12 := by rw [List.length_take]; omega
  generalize hys : (xs.drop 1).take 12 = ys at *
  refine loop_st (σ := RwS) RwS.led (fun c => [(Str.ofString "rows", .ref c.R)]) [Str.ofString "item"] (RwOk ys (D1, listOf dv.toArray 0) news) ⟨R0, [], 0, [], [], [], [], Lr0, [], 0, [], (D1, listOf dv.toArray 0) :: news⟩
    rfl (fun i c h => .tail _ (.tail _ (List.mem_append.mpr (.inr h.src)))) F2 (by intro p hp; refine N2 p ?_; simp [RwS.led] at hp ⊢; rcases hp with h | h | h | h <;> simp [h]) (List.forall_mem_cons.mpr ⟨rfl, fun _ h => nomatch h⟩) ?_ ?_ ?_
  · refine ⟨rfl, .nil, .none, .nil, .head _, fun p hp => .tail _ hp, ?_, ?_, (fun _ h => nomatch h), fun _ => rfl, fun _ _ => rfl, Nat.le_refl _⟩
    · intro q hq
      rcases List.mem_cons.mp hq with rfl | hq
      · exact Nat.ne_of_lt l2.1
      · rcases List.mem_cons.mp hq with rfl | hq
        · exact Ne.symm (Nat.ne_of_lt l3.1)
        · exact allLt_ne l2.2 q hq
    · intro q hq
      rcases List.mem_cons.mp hq with rfl | hq
      · exact Ne.symm (Nat.ne_of_lt l3.2.1)
      · exact Nat.ne_of_lt (l1 q hq)
  · intro c i v u h tk own hv hoff hP F3 N3
    obtain ⟨R, refs, n, dn, lp, lv, lr, Lr, its, k, last, rest⟩ := c
    refine Classical.byContradiction fun hng9 => ?_
    obtain ⟨hst, hrows, hlp, hits, hsrc, hsub, hoR, hoL, hfull, hone, htwo, hsmall⟩ := hP
    refine hng9 ?_
    clear hng9
    dsimp only [RwS.led] at hst hrows hlp hits hsrc hsub hoR hoL hfull hone htwo hsmall hoff F3 N3 ⊢
    refine Classical.byContradiction fun hng9 => ?_
    obtain ⟨x, tx, rfl, hx⟩ := ints_item hI2 i v hv
    refine hng9 ?_
    clear hng9
    simp only [List.cons_append] at N3
    have hilt : i < ys.length := (List.getElem?_eq_some_iff.mp hx).1
    have hlpl : lv.length ≤ 1 := by cases hlp <;> simp
    have hw : (refs ++ lv).length ≤ 1000000 := by rw [List.length_append, hrows.len]; omega
    have hRall : ∀ p ∈ (Lr, listOf its.toArray k) :: (lp ++ rest ++ own), p.1 ≠ R := by
      intro p hp
      rcases List.mem_cons.mp hp with rfl | hp
      · exact hoR _ (.head _)
      · rcases List.mem_append.mp hp with hp | hp
        · exact hoR _ (.tail _ hp)
        · exact hoff p hp R (.head _)
    have hLall : ∀ p ∈ lp ++ rest ++ own, p.1 ≠ Lr := by
      intro p hp
      rcases List.mem_append.mp hp with hp | hp
      · exact hoL _ hp
      · exact hoff p hp Lr (.tail _ (.head _))
    have hRL : Lr ≠ R := hoR _ (.head _)
    have hLR : @Ne Nat R Lr := fun e => hRL e.symm
    have hrl : refs.length ≤ 12 := by rw [hrows.len]; omega
    have hil : its.length ≤ 1000000 := by rw [hits.len]; omega
    refine hideQ ?_
    intro R9 hR9
    by_cases hlt : x.fmod 20 < 17
    · have hP9 : RwOk ys (D1, listOf dv.toArray 0) news i ⟨R, refs, n, dn, lp, lv, lr, Lr, its, k, last, rest⟩ := ⟨hst, hrows, hlp, hits, hsrc, hsub, hoR, hoL, hfull, hone, htwo, hsmall⟩
      (k_unmd)
      (try k_fold)
      k_steps
      unfold Stuck
      refine' Does.use ?k1 ?k2 ?k3 ?k4 ?k5 ?k6 ?k7 ?k8 (item_does w mean mg mb _ x tx its.isEmpty hlt) ?_
      walk_at "Muse"
      intro n' r' h6 tk6 hR F4 N4
      refine Classical.byContradiction fun hng9 => ?_
      obtain ⟨Di, ws, ki, rfl, rfl, hS, hlt4⟩ := hR
      refine hng9 ?_
      clear hng9
      refine Classical.byContradiction fun hng9 => ?_
      obtain ⟨t1, t2, rfl⟩ := strs_2 hS
      refine hng9 ?_
      clear hng9
      (k_unmd)
      (try k_fold)
      k_steps
      rename Fr _ _ _ _ => F5
      unfold Stuck
      have heq : its.isEmpty = last.isEmpty := by
        have := hits.len
        cases its <;> cases last <;> simp at this ⊢
      refine cutK (σ := ItC) F5 (fun c => (c.D, listOf #[.str c.p c.t, .str c.q c.u] c.n) :: (R, listOf (refs ++ lv ++ [Value.ref Lr]).toArray n) :: (Lr, listOf its.toArray k) :: (lp ++ rest ++ own)) (fun c => [(Str.ofString "item", .ref c.D)]) []
        (fun c => (c.p, c.q) = itemR x last ∧ (@LT.lt Nat _ R c.D) ∧ (@LT.lt Nat _ Lr c.D) ∧ AllLt c.D (lp ++ rest ++ own)) ?_ ?_
      · intro Rc hC9
        walk_at "exec If"
        rcases hits.last with ⟨rfl, rfl⟩ | ⟨ws, D9, p9, q9, t9, u9, n9, r9, rfl, rfl, hm9, hw9⟩
        · (k_unmd)
          k_steps
          · refine hC9 _ ?_
            walk_at "Mitend"
            (case hq => exact it_same0)
            (case hlt => exact hlt4.2)
            (case hm => k_mem)
          · refine hC9 _ ?_
            walk_at "Mitend"
            (case hq => exact it_same0)
            (case hlt => exact hlt4.2)
            (case hm => k_mem)
        · have hm10 : (D9, listOf #[Value.str p9 t9, Value.str q9 u9] n9) ∈ lp ++ rest ++ own := List.mem_append.mpr (.inl (List.mem_append.mpr (.inr hm9)))
          have hwl : ws.length ≤ 1000000 := by rw [List.length_append] at hil; omega
          (k_unmd)
          k_steps
          · exfalso; rename ((_ ++ _ : List Value).isEmpty = true) => h9; simp at h9
          · refine hC9 _ ?_
            walk_at "Mitend"
            (case hq => exact it_chg heq rfl (by assumption) (by assumption))
            (case hlt => walk_at "Mright")
            (case hm => k_mem)
          · refine hC9 _ ?_
            walk_at "Mitend"
            (case hq => exact it_same2 heq rfl (by assumption))
            (case hlt => exact hlt4.2)
            (case hm => k_mem)
          · refine hC9 _ ?_
            walk_at "Mitend"
            (case hq => exact it_same1 heq (by assumption))
            (case hlt => exact hlt4.2)
            (case hm => k_mem)
      · intro c u7 h7 tk7 hP7 F7 N7
        obtain ⟨Dc, pc, qc, tc, uc, nc⟩ := c
        refine Classical.byContradiction fun hng9 => ?_
        obtain ⟨hpq, hlt7⟩ := hP7
        refine hng9 ?_
        clear hng9
        dsimp only at hpq hlt7 F7 N7
        refine Classical.byContradiction fun hng9 => ?_
        obtain ⟨h71, h72, h73⟩ := hlt7
        refine hng9 ?_
        clear hng9
        (k_unmd)
        k_steps
        refine hR9 _ _ ?_
        refine st_end (RwS.mk R (refs ++ lv) n (dn ++ lr) [] [] [] Lr (its ++ [.ref Dc]) (k + 1) (last ++ [(pc, qc)]) ((Dc, listOf #[.str pc tc, .str qc uc] nc) :: (lp ++ rest))) (by assumption) (by assumption) ?_ ?_ ?_ (List.forall_mem_cons.mpr ⟨by with_unfolding_all rfl, fun _ h => nomatch h⟩) ?_ (rw_item hP9 hx hlt hpq ?_)
        · intro p hp
          simp only [RwS.led, List.append_nil, List.nil_append] at hp
          rcases List.mem_cons.mp hp with rfl | hp
          · exact .tail _ (.head _)
          · rcases List.mem_cons.mp hp with rfl | hp
            · exact .tail _ (.tail _ (.head _))
            · rcases List.mem_cons.mp hp with rfl | hp
              · exact .head _
              · exact .tail _ (.tail _ (.tail _ (List.mem_append.mpr (.inl hp))))
        · exact fun p hp => .tail _ (.tail _ (.tail _ (List.mem_append.mpr (.inr hp))))
        · intro p hp b hb
          simp only [RwS.led, List.append_nil, List.nil_append, List.map_cons] at hb
          rcases List.mem_cons.mp hb with rfl | hb
          · exact hoff p hp _ (.head _)
          · rcases List.mem_cons.mp hb with rfl | hb
            · exact hoff p hp _ (.tail _ (.head _))
            · rcases List.mem_cons.mp hb with rfl | hb
              · exact allLt_ne h73 p (List.mem_append.mpr (.inr hp))
              · exact hoff p hp _ (.tail _ (.tail _ hb))
        · intro z h1 h2 h3
          have h4 := h2 _ (.head _)
          have h5 : z ≠ Str.ofString "item" := by intro e; subst e; simp at h3
          ((try dsimp only [kstB]); repeat (first | rfl | (refine (if_neg (by simp [h1, h4, h5])).trans ?_)))
        · intro q hq
          rcases List.mem_cons.mp hq with rfl | hq
          · exact Nat.ne_of_lt h71
          · rcases List.mem_cons.mp hq with rfl | hq
            · exact Nat.ne_of_lt h72
            · exact allLt_ne h73 q (List.mem_append.mpr (.inl hq))
    · have hP9 : RwOk ys (D1, listOf dv.toArray 0) news i ⟨R, refs, n, dn, lp, lv, lr, Lr, its, k, last, rest⟩ := ⟨hst, hrows, hlp, hits, hsrc, hsub, hoR, hoL, hfull, hone, htwo, hsmall⟩
      (k_unmd)
      (try k_fold)
      k_steps
      · refine hR9 _ _ ?_
        refine st_end (RwS.mk R refs n dn lp lv lr Lr its k last rest) (by assumption) (by assumption) ?_ ?_ hoff (List.forall_mem_cons.mpr ⟨by with_unfolding_all rfl, fun _ h => nomatch h⟩) ?_ (rw_same hP9 hx hlt (by assumption))
        · exact fun p hp => .tail _ (mem_two hp)
        · exact fun p hp => .tail _ (.tail _ (.tail _ (List.mem_append.mpr (.inr hp))))
        · intro z h1 h2 h3
          have h4 := h2 _ (.head _)
          have h5 : z ≠ Str.ofString "item" := by intro e; subst e; simp at h3
          ((try dsimp only [kstB]); repeat (first | rfl | (refine (if_neg (by simp [h1, h4, h5])).trans ?_)))
      · rename_i l9 _ _ _ D8 _ l8 _ _ N8
        have hnew := rw_new (kd := 0) (D := D8) hP9 hx hlt (by assumption) (allLt_ne (l := (R, listOf (refs ++ lv ++ [Value.ref Lr]).toArray n) :: (Lr, listOf its.toArray k) :: (lp ++ rest)) ⟨l8.2.1, l8.2.2.1, allLt_app l8.2.2.2⟩)
        refine Classical.byContradiction fun hng9 => ?_
        obtain ⟨hok, rfl, rfl⟩ := hnew
        refine hng9 ?_
        clear hng9
        refine hR9 _ _ ?_
        refine st_end _ (by assumption) N8 ?_ ?_ ?_ (List.forall_mem_cons.mpr ⟨by with_unfolding_all rfl, fun _ h => nomatch h⟩) ?_ hok
        · intro p hp
          simp only [RwS.led, List.append_nil, List.nil_append, List.singleton_append] at hp
          rcases List.mem_cons.mp hp with rfl | hp
          · refine .tail _ (.tail _ ?_)
            simp
            exact .head _
          · rcases List.mem_cons.mp hp with rfl | hp
            · exact .head _
            · rcases List.mem_cons.mp hp with rfl | hp
              · exact .tail _ (.tail _ (.tail _ (.head _)))
              · exact .tail _ (.tail _ (.tail _ (.tail _ (List.mem_append.mpr (.inl hp)))))
        · exact fun p hp => .tail _ (.tail _ (.tail _ (.tail _ (List.mem_append.mpr (.inr hp)))))
        · intro p hp b hb
          simp only [RwS.led, List.append_nil, List.nil_append, List.singleton_append, List.map_cons] at hb
          rcases List.mem_cons.mp hb with rfl | hb
          · exact hoff p hp _ (.head _)
          · rcases List.mem_cons.mp hb with rfl | hb
            · exact allLt_ne l8.2.2.2 p (List.mem_append.mpr (.inr hp))
            · exact hoff p hp _ (.tail _ hb)
        · intro z h1 h2 h3
          have h4 := h2 _ (.head _)
          have h5 : z ≠ Str.ofString "item" := by intro e; subst e; simp at h3
          ((try dsimp only [kstB]); repeat (first | rfl | (refine (if_neg (by simp [h1, h4, h5])).trans ?_)))
  · intro c u h tk hP F3 N3
    obtain ⟨R, refs, n, dn, lp, lv, lr, Lr, its, k, last, rest⟩ := c
    refine Classical.byContradiction fun hng9 => ?_
    obtain ⟨hst, hrows, hlp, hits, hsrc, hsub, hoR, hoL, hfull, hone, htwo, hsmall⟩ := hP
    refine hng9 ?_
    clear hng9
    dsimp only [RwS.led] at hst hrows hlp hits hsrc hsub hoR hoL hfull hone htwo hsmall F3 N3 ⊢
    (k_unmd)
    k_steps
    unfold Stuck
    have hall : RowsAt (lp ++ rest) (refs ++ lv) (dn ++ lr) := (hrows.mono fun p hp => List.mem_append.mpr (.inr hp)).app hlp.rows
    have hfl : ∀ r ∈ dn ++ lr, r ≠ [] := fun r hr => (List.mem_append.mp hr).elim (hfull r) (hlp.full r)
    refine LCt.CompSrcT.ledger rfl F3 N3 (.head _) ?_ ?_
    · rw [List.size_toArray, sizeLine_eq, List.length_append, hall.len, List.length_append]
      simp
      omega
    intro g9
    rw [List.size_toArray]
    refine comp_test (refs ++ lv ++ [Value.ref Lr]) (fun i => if i < (refs ++ lv).length then true else !its.isEmpty) (fun i v h => by simpa using h) (.inr ⟨_, .head _, rfl, _, rfl⟩) ?_ ?_ ?_
    · intro i zs v I oI C oC D2 m2 h2 tk2 E2 hv hC hx2 F2 N2 off ne
      have hrow : ∃ (D9 : Addr) (n9 : Nat) (vs9 : List Value), v = .ref D9 ∧ (D9, listOf vs9.toArray n9) ∈ (I, oI) :: (C, oC) :: (D2, lst zs) :: (R, listOf (refs ++ lv ++ [Value.ref Lr]).toArray n) :: (Lr, listOf its.toArray k) :: (lp ++ rest) ∧ (!vs9.isEmpty) = (if i < (refs ++ lv).length then true else !its.isEmpty) := by
        by_cases hi : i < (refs ++ lv).length
        · rw [List.getElem?_append_left hi] at hv
          obtain ⟨D9, n9, vs9, row, rfl, hrow, hm, hits9⟩ := hall.at i v hv
          refine ⟨D9, n9, vs9, rfl, .tail _ (.tail _ (.tail _ (.tail _ (.tail _ hm)))), ?_⟩
          have := hfl row (List.mem_of_getElem? hrow)
          rw [if_pos hi, hits9.empty]
          cases row with
          | nil => exact absurd rfl this
          | cons _ _ => rfl
        · have hv' := hv
          rw [List.getElem?_append_right (by omega)] at hv'
          have h0 : i - (refs ++ lv).length = 0 := by
            have h8 := (List.getElem?_eq_some_iff.mp hv').1
            rw [List.length_singleton] at h8; omega
          rw [h0] at hv'
          cases hv'
          exact ⟨Lr, k, its, rfl, .tail _ (.tail _ (.tail _ (.tail _ (.head _)))), by rw [if_neg hi]⟩
      refine Classical.byContradiction fun hng9 => ?_
      obtain ⟨D9, n9, vs9, rfl, hm9, e9⟩ := hrow
      refine hng9 ?_
      clear hng9
      (try k_unmd)
      (try k_fold)
      k_steps
      all_goals first | assumption | walk_at "Mdrop"
    · intro i zs v I oI C oC D2 m2 h2 tk2 E2 hv hC hx2 F2 N2 off ne
      (try k_unmd)
      (try k_fold)
      k_steps
      all_goals first | assumption | walk_at "Mdrop"
    · rw [filt_last]
      unfold FinE
      intro D3 h3 tk3 F3 N3 o3
      have hlen : dv.length = ys.length := hI2.length
      rw [hlen, List.take_length] at hst
      dsimp only
      have hrl : refs.length ≤ 12 := by rw [hrows.len]; omega
      have oL : (@Ne Nat Lr D3) := o3.2.1
      have o4 : ∀ q ∈ lp ++ rest, q.1 ≠ D3 := off1_mem o3.2.2
      cases hits with
      | @cons Dq pq qq tq uq nq vsq rq hmq hrq =>
        have hlr := hone (by simp)
        subst hlr
        cases hlp
        have N4 : News g1 L1 h3 ((D3, listOf (refs ++ [Value.ref Lr]).toArray (refs ++ [Value.ref Lr]).length) :: (Lr, listOf (Value.ref Dq :: vsq).toArray k) :: rest) := by
          intro p hp
          refine N3 p ?_
          rcases List.mem_cons.mp hp with rfl | hp
          · simp
          · exact .tail _ (.tail _ hp)
        clear N3
        (k_unmd)
        k_steps
        refine hret _ _ _ _ ⟨D3, refs, _, Lr, Value.ref Dq :: vsq, k, rest, dn, (pq, qq) :: rq, rfl, rfl, hrows, .cons hmq hrq, ?_, hsub, fun q hq => ⟨o4 q hq, hoL q hq⟩, oL⟩ (by assumption) (by assumption)
        unfold rowsF
        rw [hst]
        simp
      | nil =>
        cases hlp with
        | none =>
          have := htwo rfl rfl
          subst this
          cases hrows
          have N4 : News g1 L1 h3 ((D3, listOf #[] 0) :: rest) := by
            intro p hp
            refine N3 p ?_
            rcases List.mem_cons.mp hp with rfl | hp
            · exact .head _
            · exact .tail _ (.tail _ (.tail _ hp))
          clear N3
          (k_unmd)
          k_steps
          refine hret _ _ _ _ ⟨_, [], _, _, [Value.ref _, Value.ref _], _, _, [], _, rfl, rfl, .nil, .cons (.tail _ (.head _)) (.cons (.head _) .nil), ?_, ?_, ?_, ?_⟩ (by assumption) (by assumption)
          · unfold rowsF
            rw [hst]
            rfl
          · exact fun p hp => .tail _ (.tail _ (.tail _ (hsub p hp)))
          · rename_i l7 _ _ _ _ l8 _ _ _ _
            exact fun q hq => ⟨allLt_ne (l := (_, _) :: (_, _) :: (D3, listOf #[] 0) :: rest) l8.2 q hq, allLt_ne (l := (_, _) :: (_, _) :: (D3, listOf #[] 0) :: rest) l7 q hq⟩
          · rename_i l7 _ _ _ _ l8 _ _ _ _
            exact Nat.ne_of_lt l8.1
        | @one P vsP kP rowP hiP hneP hoP =>
          have N4 : News g1 L1 h3 ((D3, listOf (refs ++ [Value.ref P]).toArray (refs ++ [Value.ref P]).length) :: (P, listOf vsP.toArray kP) :: rest) := by
            intro p hp
            refine N3 p ?_
            rcases List.mem_cons.mp hp with rfl | hp
            · simp
            · exact .tail _ (.tail _ (.tail _ hp))
          clear N3
          (k_unmd)
          k_steps
          refine hret _ _ _ _ ⟨D3, refs, _, P, vsP, kP, rest, dn, rowP, rfl, rfl, hrows, hiP, ?_, hsub, fun q hq => ⟨o4 q (.tail _ hq), hoP q hq⟩, o4 _ (.head _)⟩ (by assumption) (by assumption)
          unfold rowsF
          rw [hst]
          simp
end

section
open PySem PySem.W PyProof.Rows PySem.Calls PySem.Builtin PySem.Builtin.Str
/-! texts as lists of codes -/
noncomputable def cl (x : Str) : List Nat := x.cps.toList
theorem cl_ext {x y : Str} (h : cl x = cl y) : x = y := Str.ext' (Array.toList_inj.mp h)
theorem cl_app (x y : Str) : cl (x ++ y) = cl x ++ cl y := by show (x.cps ++ y.cps).toList = _; simp [cl]
theorem cl_len (x : Str) : (cl x).length = x.length := by simp [cl, Str.length]
theorem sl_eq : Str.ofString "/" = ⟨#[47]⟩ := by decide +kernel
theorem cl_sl : cl (Str.ofString "/") = [47] := by rw [sl_eq]; rfl
theorem cl_nil : cl (Str.ofString "") = [] := by decide +kernel
theorem app_assoc (a b c : Str) : a ++ b ++ c = a ++ (b ++ c) := Str.append_assoc a b c
theorem app_nil (a : Str) : a ++ Str.ofString "" = a := cl_ext (by rw [cl_app, cl_nil, List.append_nil])
theorem nil_app (a : Str) : Str.ofString "" ++ a = a := cl_ext (by rw [cl_app, cl_nil, List.nil_append])
theorem eq_nil_of {x : Str} (h : x.length = 0) : x = Str.ofString "" := cl_ext (by rw [cl_nil]; exact List.eq_nil_of_length_eq_zero (by rw [cl_len]; exact h))
/-- joining -/
theorem join_cons2 (s a b : Str) (r : List Str) : Str.join s (a :: b :: r) = a ++ s ++ Str.join s (b :: r) := rfl
theorem join_app (s : Str) : ∀ {a b : List Str}, a ≠ [] → b ≠ [] → Str.join s (a ++ b) = Str.join s a ++ s ++ Str.join s b
  | [], _, h, _ => absurd rfl h
  | [x], [], _, h => absurd rfl h
  | [x], y :: b, _, _ => rfl
  | x :: y :: r, b, _, hb => by
    have ih := join_app s (a := y :: r) (b := b) (by simp) hb
    show x ++ s ++ Str.join s ((y :: r) ++ b) = _
    rw [ih, join_cons2]
    simp only [app_assoc]
theorem cut_unique {c : Nat} : ∀ {a a' b b' : List Nat}, c ∉ a → c ∉ a' → a ++ c :: b = a' ++ c :: b' → a = a' ∧ b = b'
  | [], [], _, _, _, _, h => ⟨rfl, by simpa using h⟩
  | [], y :: a', b, b', _, h', h => by simp at h h'; exact absurd h.1 h'.1
  | x :: a, [], b, b', h', _, h => by simp at h h'; exact absurd h.1.symm h'.1
  | x :: a, y :: a', b, b', h1, h2, h => by
    simp at h h1 h2
    obtain ⟨e1, e2⟩ := cut_unique h1.2 h2.2 h.2
    exact ⟨by rw [h.1, e1], e2⟩
theorem cl_join2 (c : Nat) (a b : Str) (r : List Str) : cl (Str.join ⟨#[c]⟩ (a :: b :: r)) = cl a ++ c :: cl (Str.join ⟨#[c]⟩ (b :: r)) := by
  rw [join_cons2, cl_app, cl_app]
  show cl a ++ [c] ++ _ = _
  simp
theorem join_inj {c : Nat} : ∀ {l l' : List Str}, l ≠ [] → l' ≠ [] → (∀ p ∈ l, c ∉ cl p) → (∀ p ∈ l', c ∉ cl p) → Str.join ⟨#[c]⟩ l = Str.join ⟨#[c]⟩ l' → l = l'
  | [], _, h, _, _, _, _ => absurd rfl h
  | _, [], _, h, _, _, _ => absurd rfl h
  | [x], [y], _, _, _, _, h => by rw [show x = y from h]
  | [x], y :: z :: r, _, _, hx, _, h => by
    have e := congrArg cl h
    rw [cl_join2] at e
    exact absurd (show c ∈ cl x by rw [show cl x = _ from e]; simp) (hx x (.head _))
  | x :: z :: r, [y], _, _, _, hy, h => by
    have e := congrArg cl h
    rw [cl_join2] at e
    exact absurd (show c ∈ cl y by rw [show cl y = _ from e.symm]; simp) (hy y (.head _))
  | x :: z :: r, y :: z' :: r', _, _, hx, hy, h => by
    have e := congrArg cl h
    rw [cl_join2, cl_join2] at e
    obtain ⟨e1, e2⟩ := cut_unique (hx x (.head _)) (hy y (.head _)) e
    have ih := join_inj (l := z :: r) (l' := z' :: r') (by simp) (by simp) (fun p hp => hx p (.tail _ hp)) (fun p hp => hy p (.tail _ hp)) (cl_ext e2)
    rw [cl_ext e1, ih]
theorem split_ne (x y : Str) : Txt.split x y ≠ [] := by
  have := split_pos x y
  intro e; rw [e] at this; simp at this
noncomputable abbrev sp (x : Str) : List Str := Txt.split x (Str.ofString "/")
theorem sp_free (x : Str) : ∀ p ∈ sp x, 47 ∉ cl p := by
  unfold sp; rw [sl_eq]; exact StrLaws.split_free x 47
theorem sp_join (x : Str) : Str.join ⟨#[47]⟩ (sp x) = x := by
  unfold sp; rw [sl_eq]; exact StrLaws.join_split x _
theorem sp_of {x : Str} {l : List Str} (hn : l ≠ []) (hf : ∀ p ∈ l, 47 ∉ cl p) (h : Str.join ⟨#[47]⟩ l = x) : sp x = l :=
  join_inj (split_ne _ _) hn (sp_free x) hf (by rw [sp_join, h])
theorem sp_app (u v : Str) : sp (u ++ (Str.ofString "/" ++ v)) = sp u ++ sp v := by
  refine sp_of (by simp [split_ne]) (fun p hp => (List.mem_append.mp hp).elim (sp_free u p) (sp_free v p)) ?_
  rw [join_app _ (split_ne _ _) (split_ne _ _), sp_join, sp_join, sl_eq, app_assoc]
theorem sp_one {x : Str} (h : 47 ∉ cl x) : sp x = [x] := sp_of (by simp) (by simpa using h) rfl
/-- the parts that are not empty -/
noncomputable def comps (x : Str) : List Str := (sp x).filter fun p => decide (p.length ≠ 0)
theorem comps_app (u v : Str) : comps (u ++ (Str.ofString "/" ++ v)) = comps u ++ comps v := by
  unfold comps; rw [sp_app, List.filter_append]
theorem comps_nil : comps (Str.ofString "") = [] := by
  unfold comps; rw [sp_one (by rw [cl_nil]; simp)]; decide +kernel
theorem comps_slash (u : Str) : comps (u ++ Str.ofString "/") = comps u := by
  have := comps_app u (Str.ofString "")
  rw [app_nil, comps_nil, List.append_nil] at this
  exact this
theorem comps_one {x : Str} (h : 47 ∉ cl x) (hn : x.length ≠ 0) : comps x = [x] := by
  unfold comps; rw [sp_one h]; simp [hn]
/-- the affixes -/
theorem starts_iff (x : Str) : Txt.startswith x (Str.ofString "/") = decide ((cl x).head? = some 47) := by
  rw [sl_eq]
  unfold Txt.startswith
  rw [StrLaws.subAt_eq]
  show (decide (0 + 1 ≤ x.length) && (((cl x).drop 0).take 1 == [47])) = _
  rw [← cl_len, List.drop_zero]
  cases cl x with
  | nil => rfl
  | cons a r => rw [Bool.eq_iff_iff]; simp
theorem ends_of {x : Str} (h : Txt.endswith x (Str.ofString "/") = true) : ∃ q, x = q ++ Str.ofString "/" := by
  rw [sl_eq] at h
  unfold Txt.endswith at h
  rw [StrLaws.subAt_eq] at h
  have h' : (decide (0 + 1 ≤ x.length) && (((cl x).drop (x.length - 1)).take 1 == [47])) = true := h
  rw [Bool.and_eq_true, decide_eq_true_eq, beq_iff_eq, ← cl_len] at h'
  obtain ⟨h1, h2⟩ := h'
  refine ⟨⟨((cl x).take ((cl x).length - 1)).toArray⟩, cl_ext ?_⟩
  rw [cl_app, cl_sl]
  show cl x = (cl x).take _ ++ [47]
  have h3 : (cl x).drop ((cl x).length - 1) = [47] := by
    rw [List.take_of_length_le (by rw [List.length_drop]; lia)] at h2
    exact h2
  rw [← h3, List.take_append_drop]
theorem ends_app {q x : Str} (hx : x.length ≠ 0) : Txt.endswith (q ++ x) (Str.ofString "/") = Txt.endswith x (Str.ofString "/") := by
  rw [sl_eq]
  unfold Txt.endswith
  rw [StrLaws.subAt_eq, StrLaws.subAt_eq]
  show (decide (0 + 1 ≤ (q ++ x).length) && (((cl (q ++ x)).drop ((q ++ x).length - 1)).take 1 == [47])) = (decide (0 + 1 ≤ x.length) && (((cl x).drop (x.length - 1)).take 1 == [47]))
  rw [strLen_append, cl_app]
  have e : q.length + x.length - 1 = (cl q).length + (x.length - 1) := by rw [cl_len]; exact Nat.add_sub_assoc (Nat.pos_of_ne_zero hx) _
  rw [e, List.drop_append]
  have h1 : decide (0 + 1 ≤ q.length + x.length) = true := by simp; lia
  have h2 : decide (0 + 1 ≤ x.length) = true := by simp; lia
  rw [h1, h2, List.drop_eq_nil_of_le (as := cl q) (by lia), List.nil_append, Nat.add_sub_cancel_left]
/-- slices -/
theorem slice_text (x : Str) (l u : Option Int) : Txt.slice x l u = StrLaws.sliceText x l u := rfl
theorem idx_clamp (a b len : Nat) : strSliceIndices (some (a : Int)) (some (b : Int)) 1 len = strSliceIndices (some ((min a len : Nat) : Int)) (some ((min b len : Nat) : Int)) 1 len := by
  have a1 := int_nn a
  have b1 := int_nn b
  have a2 := int_nn (min a len)
  have b2 := int_nn (min b len)
  have e1 : max (0 : Int) (min (a : Int) (len : Int)) = max (0 : Int) (min ((min a len : Nat) : Int) (len : Int)) := clamp_min a len
  have e2 : max (0 : Int) (min (b : Int) (len : Int)) = max (0 : Int) (min ((min b len : Nat) : Int) (len : Int)) := clamp_min b len
  simp only [strSliceIndices, a1, b1, a2, b2, if_false, e1, e2, show ((1 : Int) > 0) = True from by simp, if_true]
theorem cl_slice (x : Str) (a b : Nat) : cl (Txt.slice x (some (a : Int)) (some (b : Int))) = ((cl x).drop a).take (b - a) := by
  have e : Txt.slice x (some (a : Int)) (some (b : Int)) = Txt.slice x (some ((min a x.length : Nat) : Int)) (some ((min b x.length : Nat) : Int)) := by
    unfold Txt.slice; rw [idx_clamp]
  rw [e]
  by_cases hab : min a x.length ≤ min b x.length
  · rw [slice_text, StrLaws.sliceText_nat x hab (Nat.min_le_right _ _)]
    show (x.cps.toList.drop _).take _ = _
    show ((cl x).drop _).take _ = _
    have hl := cl_len x
    by_cases ha : a ≤ x.length
    · rw [Nat.min_eq_left ha]
      by_cases hb : b ≤ x.length
      · rw [Nat.min_eq_left hb]
      · rw [Nat.min_eq_right (by lia), List.take_of_length_le (by rw [List.length_drop]; lia), List.take_of_length_le (by rw [List.length_drop]; lia)]
    · rw [List.drop_of_length_le (by lia), List.drop_of_length_le (by lia)]
      simp
  · have h0 : b - a = 0 := Nat.sub_eq_zero_of_le ((Nat.le_total b a).resolve_right fun h => hab (Nat.le_min.mpr ⟨Nat.le_trans (Nat.min_le_left _ _) h, Nat.min_le_right _ _⟩))
    rw [h0, List.take_zero]
    have hlt : ¬ ((min a x.length : Nat) : Int) < ((min b x.length : Nat) : Int) := fun h => hab (Nat.le_of_lt (Int.ofNat_lt.mp h))
    unfold Txt.slice
    have a2 := int_nn (min a x.length)
    have b2 := int_nn (min b x.length)
    have e1 : max (0 : Int) (min ((min a x.length : Nat) : Int) (x.length : Int)) = ((min a x.length : Nat) : Int) := clamp_id (Nat.min_le_right _ _)
    have e2 : max (0 : Int) (min ((min b x.length : Nat) : Int) (x.length : Int)) = ((min b x.length : Nat) : Int) := clamp_id (Nat.min_le_right _ _)
    have e3 : strSliceIndices (some ((min a x.length : Nat) : Int)) (some ((min b x.length : Nat) : Int)) 1 x.length = [] := by
      simp only [strSliceIndices, sliceRange, a2, b2, if_false, e1, e2, hlt, show ((1 : Int) > 0) = True from by simp, if_true]
      rfl
    rw [e3]
    split
    · rename_i h
      simp at h
      have : x.length = 0 := h.symm
      exact List.eq_nil_of_length_eq_zero (by rw [cl_len]; exact this)
    · rfl
theorem cl_slice_to (x : Str) (b : Nat) : cl (Txt.slice x none (some (b : Int))) = (cl x).take b := by
  have e : Txt.slice x none (some (b : Int)) = Txt.slice x (some ((0 : Nat) : Int)) (some (b : Int)) := by
    unfold Txt.slice; rw [StrLaws.sliceIdx_none_lo]; rfl
  rw [e, cl_slice]
  simp
theorem cl_slice_from (x : Str) (a : Nat) : cl (Txt.slice x (some (a : Int)) none) = (cl x).drop a := by
  have e : Txt.slice x (some (a : Int)) none = Txt.slice x (some (a : Int)) (some (x.length : Int)) := by
    unfold Txt.slice; rw [StrLaws.sliceIdx_none_hi]
  rw [e, cl_slice, List.take_of_length_le]
  rw [List.length_drop, cl_len]
  lia
end

section
open PySem PySem.W PyProof.Rows PySem.Calls
theorem sroot_le (x : Str) : (sroot x).2.length ≤ x.length ∧ (sroot x).1.length ≤ x.length + 1 := by
  have h1 : (Str.ofString "").length = 0 := by decide +kernel
  have h2 : (Str.ofString "/").length = 1 := by decide +kernel
  have h3 := Txt.slice_le x
  unfold sroot
  (repeat' split) <;> refine ⟨?_, ?_⟩ <;> dsimp only <;> first | exact h3 _ _ | exact Nat.le_refl _ | omega | exact Nat.le_succ_of_le (h3 _ _)
theorem sroot_sz {x : Str} (hx : x.length ≤ 100000) : (sroot x).2.length + 2 ≤ sizeLine := by
  have := sroot_le x
  rw [sizeLine_eq]; omega
theorem mw_P2_0 : True := by
  k_with_none
  trivial
theorem mw_P2_1 : True := by
  (k_with "Mdrop" => first | assumption | (refine' cb_drop ?cbN ?cbS; (case cbN => assumption); (case cbS => kcj_all)))
  (k_with "Muse" => (
        (case k1 => first | k_asm | ktn_no "use: the frames below")
        (case k2 => first | k_asm | ktn_no "use: the frame")
        (case k3 => first | k_asm | ktn_no "use: the written part")
        (case k4 => first | k_asm | ktn_no "use: the ledger")
        (case k5 => first | k_asm | ktn_no "use: the top's facts")
        (case k6 => first | exact rfl | assumption | ktn_no "use: the caller is no def")
        (case k7 => first | ktr_room | ktn_no "use: the frames' room")
        (case k8 => first | ktr_units | ktn_no "use: the C units")))
  (k_with "call ref" => (k_here; k_dflt (refine' Does.use ?k1 ?k2 ?k3 ?k4 ?k5 ?k6 ?k7 ?k8 (fspath_does _ _ _ _ _ _ _) ?_; walk_at "Muse"; k_whole); intro _ _ _ _ hR' _ _; obtain ⟨rfl, rfl⟩ := hR'; (try dsimp only); (try k_fold)))
  (k_with "call ref" => (k_here; k_dflt (refine' Does.use ?k1 ?k2 ?k3 ?k4 ?k5 ?k6 ?k7 ?k8 (splitroot_does _ _ _ _ _ _ _ (by omega)) ?_; walk_at "Muse"; k_whole); intro _ _ _ _ hR' _ _; obtain ⟨_, _, _, _, rfl, rfl, _⟩ := hR'; (try dsimp only); (try k_fold)))
  (k_with "call builtin:str.split" => (k_here; (refine KSpl.split1 (by k_asm) (by k_asm) (by decide) ?_ (by exact sroot_sz (by assumption))); intro _ _ _ _ _ _ _ _ _))
  (k_with "exec For Name Name cons nil" => (k_here; refine stuck_at ?_))
  trivial
noncomputable def npStep (root : Str) (acc : List Str) (c : Str) : List Str :=
  if c.length = 0 then acc else if (c == Str.ofString ".") = true then acc
  else if (c != Str.ofString "..") = true then acc ++ [c]
  else if root.length = 0 ∧ acc = [] then acc ++ [c]
  else if acc.getLast? = some (Str.ofString "..") then acc ++ [c]
  else acc.dropLast
theorem npStep_len (root : Str) (acc : List Str) (c : Str) : (npStep root acc c).length ≤ acc.length + 1 := by
  unfold npStep
  (repeat' split) <;> simp <;> omega
theorem np_len (root : Str) (l : List Str) : ∀ acc, (l.foldl (npStep root) acc).length ≤ acc.length + l.length := by
  induction l with
  | nil => intro acc; simp
  | cons c r ih => intro acc; rw [List.foldl_cons, List.length_cons]; have := ih (npStep root acc c); have := npStep_len root acc c; omega
section
variable {root y : Str} {acc : List Str}
theorem np1 (h : (y.length : Int) = 0) : npStep root acc y = acc := by
  have : y.length = 0 := by omega
  simp [npStep, this]
theorem np2 (h0 : (y.length : Int) ≠ 0) (h : (y == Str.ofString ".") = true) : npStep root acc y = acc := by
  have : y.length ≠ 0 := by omega
  simp only [npStep, if_neg this, if_pos h]
theorem np3 (h0 : (y.length : Int) ≠ 0) (h1 : (y == Str.ofString ".") = false) (h2 : (y != Str.ofString "..") = true) : npStep root acc y = acc ++ [y] := by
  have : y.length ≠ 0 := by omega
  simp only [npStep, if_neg this, h1, Bool.false_eq_true, if_false, if_pos h2]
theorem np4 (h0 : (y.length : Int) ≠ 0) (h1 : (y == Str.ofString ".") = false) (h2 : (y != Str.ofString "..") = false) (hr : (root.length : Int) = 0) (he : acc.isEmpty = true) : npStep root acc y = acc ++ [y] := by
  have : y.length ≠ 0 := by omega
  have hr' : root.length = 0 := by omega
  have he' : acc = [] := List.isEmpty_iff.mp he
  simp only [npStep, if_neg this, h1, h2, Bool.false_eq_true, if_false, if_pos (And.intro hr' he')]
theorem np5 (h0 : (y.length : Int) ≠ 0) (h1 : (y == Str.ofString ".") = false) (h2 : (y != Str.ofString "..") = false) (he : acc.isEmpty = false) {hne : acc ≠ []} (hl : (acc.getLast hne == Str.ofString "..") = true) : npStep root acc y = acc ++ [y] := by
  have : y.length ≠ 0 := by omega
  have hl' : acc.getLast? = some (Str.ofString "..") := by rw [List.getLast?_eq_some_getLast hne, beq_iff_eq.mp hl]
  have hn : ¬ (root.length = 0 ∧ acc = []) := fun h => hne h.2
  simp only [npStep, if_neg this, h1, h2, Bool.false_eq_true, if_false, if_neg hn, if_pos hl']
theorem np6 (h0 : (y.length : Int) ≠ 0) (h1 : (y == Str.ofString ".") = false) (h2 : (y != Str.ofString "..") = false) (he : acc.isEmpty = false) {hne : acc ≠ []} (hl : (acc.getLast hne == Str.ofString "..") = false) : npStep root acc y = acc.dropLast := by
  have : y.length ≠ 0 := by omega
  have hl' : ¬ (acc.getLast? = some (Str.ofString "..")) := by
    rw [List.getLast?_eq_some_getLast hne]
    intro h
    rw [Option.some.inj h] at hl
    simp at hl
  have hn : ¬ (root.length = 0 ∧ acc = []) := fun h => hne h.2
  simp only [npStep, if_neg this, h1, h2, Bool.false_eq_true, if_false, if_neg hn, if_neg hl']
theorem np7 (h0 : (y.length : Int) ≠ 0) (h1 : (y == Str.ofString ".") = false) (h2 : (y != Str.ofString "..") = false) (hr : (root.length : Int) ≠ 0) (he : acc.isEmpty = true) : npStep root acc y = acc := by
  have : y.length ≠ 0 := by omega
  have hr' : root.length ≠ 0 := by omega
  have he' : acc = [] := List.isEmpty_iff.mp he
  have hn : ¬ (root.length = 0 ∧ acc = []) := fun h => hr' h.1
  subst he'
  simp [npStep, this, h1, h2, hr']
theorem np_next {l : List Str} {i : Nat} {acc' : List Str} (hy : l[i]? = some y) (hP : acc = (l.take i).foldl (npStep root) []) (e : npStep root acc y = acc') : acc' = (l.take (i + 1)).foldl (npStep root) [] := by
  rw [List.take_add_one, hy, List.foldl_append, ← hP, ← e]; rfl
end
noncomputable def wt (l : List Str) : Nat := (l.map (·.length)).sum + l.length
theorem wt_app (l l' : List Str) : wt (l ++ l') = wt l + wt l' := by simp [wt]; omega
theorem wt_cons (y : Str) (l : List Str) : wt (y :: l) = y.length + 1 + wt l := by simp [wt]; omega
theorem wt_drop (l : List Str) : wt l.dropLast ≤ wt l := by
  induction l with
  | nil => exact Nat.le_refl _
  | cons a r ih =>
    cases r with
    | nil => simp [wt]
    | cons b r' => rw [List.dropLast_cons₂, wt_cons, wt_cons]; omega
theorem wt_step (root : Str) (acc : List Str) (y : Str) : wt (npStep root acc y) ≤ wt acc + (y.length + 1) := by
  have h1 := wt_drop acc
  have h2 := wt_app acc [y]
  have h3 := wt_cons y []
  have h4 : wt [] = 0 := rfl
  unfold npStep
  (repeat' split) <;> omega
theorem wt_fold (root : Str) (l : List Str) : ∀ acc, wt (l.foldl (npStep root) acc) ≤ wt acc + wt l := by
  induction l with
  | nil => intro acc; exact Nat.le_add_right _ _
  | cons y r ih =>
    intro acc
    have h1 := ih (npStep root acc y)
    have h2 := wt_step root acc y
    rw [List.foldl_cons, wt_cons]
    omega
noncomputable def npComps (x : Str) : List Str := (Txt.split (sroot x).2 (Str.ofString "/")).foldl (npStep (sroot x).1) []
noncomputable def npath (x : Str) : Str :=
  if (x.length : Int) = 0 then Str.ofString "." else
  if (((sroot x).1 ++ Txt.join (Str.ofString "/") (npComps x)).length : Int) = 0 then Str.ofString "."
  else (sroot x).1 ++ Txt.join (Str.ofString "/") (npComps x)
theorem np_weigh (x : Str) : Weighs (npComps x) x.length := by
  have h1 := wt_fold (sroot x).1 (Txt.split (sroot x).2 (Str.ofString "/")) []
  have h2 := split_weight (sroot x).2 (Str.ofString "/") (by decide +kernel)
  have h3 := (sroot_le x).1
  have h4 : wt [] = 0 := rfl
  show wt (npComps x) ≤ _
  unfold npComps
  have h5 : wt (Txt.split (sroot x).2 (Str.ofString "/")) ≤ (sroot x).2.length + 1 := h2
  omega
theorem np_ret {x y : Str} {t : Tok} (e : npath x = y) : ∃ u, Value.str y t = Value.str (npath x) u := ⟨t, by rw [e]⟩
theorem mw_P2_2 : True := by
  (k_with "call builtin:str.join" => (k_here; k_dflt (refine' join_listW ?k1 ?k2 ?k3 ?k4 ?_; (case k1 => exact News.isList (by k_asm) (by k_mem)); (case k2 => (with_reducible assumption)); (case k3 => decide +kernel); (case k4 => assumption); k_whole); intro _ _))
  trivial
theorem ne_emp {α : Type} {l : List α} (h : l.isEmpty = false) : l ≠ [] := by cases l <;> simp_all
theorem ne_tru {α : Type} {l : List α} (h : (!l.isEmpty) = true) : l ≠ [] := by cases l <;> simp_all
theorem mw_P2_3 : True := by
  (k_with "truthy ref" => (k_here; (with_reducible show wpAny _ _ (truthy (Value.ref _)) _ _ _); k_dflt (refine' tru_strs ?k1 ?k2 ?k3 ?k4 ?_; (case k1 => k_asm); (case k2 => k_mem); (case k3 => assumption); (case k4 => assumption); k_whole)))
  (k_with "subscriptTail Name UnaryOp ref int" => (k_here; (with_reducible show wpAny _ _ (subscriptTail _ _ (Value.ref _) (Value.int _ _)) _ _ _); k_dflt (refine' item_last ?k1 ?k2 ?k3 ?k4 ?k5 ?_; (case k1 => k_asm); (case k2 => k_mem); (case k3 => assumption); (case k4 => first | exact ne_tru (by assumption) | exact ne_emp (by assumption)); (case k5 => assumption); k_whole); intro _))
  (k_with "call builtin:list.append" => (k_here; k_dflt (refine' app_strs ?k1 ?k2 ?k3 ?k4 ?k5 ?_; (case k1 => k_asm); (case k2 => k_asm); (case k3 => assumption); (case k4 => assumption); (case k5 => k_upd); k_whole); intro _ _ _ _))
  (k_with "call builtin:list.pop" => (k_here; k_dflt (refine' pop_strs ?k1 ?k2 ?k3 ?k4 ?k5 ?k6 ?_; (case k1 => k_asm); (case k2 => k_asm); (case k3 => assumption); (case k4 => first | exact ne_tru (by assumption) | exact ne_emp (by assumption)); (case k5 => assumption); (case k6 => k_upd); k_whole); intro _ _ _ _ _))
  trivial
local macro_rules | `(tactic| k_all) => `(tactic| (simp only [List.forall_mem_cons]; refine ⟨?_, ?_, ?_⟩; (case refine_1 => k_ne); (case refine_2 => k_ne); (case refine_3 => exact ne_app (allLt_ne (by assumption)) (own_ne (by assumption) (.head _)))))
theorem normpath_does (w : World) (mean : ExcName → Option Value) (mg mb : Str → Option Value) (news : List (Addr × Obj)) (x : Str) (t : Tok) (hx : x.length ≤ 100000) :
  Does PySem.Challenge.rw_rx0110_02.row.prog w (hd.heap_39 w.params) topProg (looseW hd.view_39 [Str.ofString "_twin_re_1", Str.ofString "_special_chars_map"] ++ (recsOf hd.view_39).map (fun x => x.name) ++ (litsOf hd.view_39).map (fun x => x.1) ++ (clssOf hd.view_39 (looseW hd.view_39 [Str.ofString "_twin_re_1", Str.ofString "_special_chars_map"])).map (fun x => x.name)) mean mg mb 177 3 news [Value.str x t] (fun n r => news = n ∧ ∃ u, r = Value.str (npath x) u) := by
  k_fill
  unfold Does
  intro dp un gd cn cs a ccd cl outer A₀ base h₀ L m s Q E B F X N T hk hd hu hret
  refine wpAny_call ?_
  (k_dflt cell_enter)
  k_steps
  · rename_i D0 t1 t2 t3 l0 _ _ _ _ _ Dc lv _ _ eC aC lC _ Dn _ lN h1 F1 N1
    unfold Stuck
    refine For_invVF F1 rfl rfl ?_
    walk1
    refine loop_vals (σ := List Str × List Value × Nat) (fun c => [(Dn, listOf c.2.1.toArray c.2.2)]) ((Dc, listOf (strValues lv).toArray 0) :: (D0, { cls := .type "tuple", data := .seq #[.str (Str.ofString "") t1, .str (sroot x).1 t2, .str (sroot x).2 t3] }) :: news) (fun _ => []) (fun _ c => StrsAre c.2.1 c.1) []
      (fun i c => c.1 = ((Txt.split (sroot x).2 (Str.ofString "/")).take i).foldl (npStep (sroot x).1) []) (Dn :: Dc :: D0 :: news.map (·.1)) ([], [], 0) rfl (.head _) F1 N1 (fun _ h => by simpa using h) (fun _ => rfl) .nil (fun _ h => nomatch h) rfl ?_ ?_
    · intro c tl i v u h tk own hv hsep hoff hS hP F2 N2
      refine Classical.byContradiction fun hng9 => ?_
      obtain ⟨acc, ws, k⟩ := c
      refine hng9 ?_
      clear hng9
      refine Classical.byContradiction fun hng9 => ?_
      obtain ⟨y, ty, rfl, hy⟩ := StrsAre.item aC i v hv
      refine hng9 ?_
      clear hng9
      rw [eC] at hy
      dsimp only at hS hP N2
      simp only [List.cons_append, List.nil_append] at N2
      have hacc : acc.length ≤ 1000000 := by
        have h1 := np_len (sroot x).1 ((Txt.split (sroot x).2 (Str.ofString "/")).take i) []
        have h2 := split_le (sroot x).2 (Str.ofString "/")
        have h3 := sroot_le x
        rw [← hP, List.length_take, List.length_nil] at h1
        omega
      have hyl : y.length ≤ 100000 := Nat.le_trans (part_short (List.mem_of_getElem? hy)) (Nat.le_trans (sroot_le x).1 hx)
      have hrl : (sroot x).1.length ≤ 100001 := Nat.le_trans (sroot_le x).2 (Nat.succ_le_succ hx)
      refine Classical.byContradiction fun hng9 => ?_
      obtain ⟨lN1, lN2, lN3⟩ := lN
      refine hng9 ?_
      clear hng9
      k_unmd
      k_fold
      k_steps
      all_goals first
        | (refine loop_end (acc, ws, k) hsep (by assumption) (by assumption) (by exact fun _ h => h) rfl (fun _ h => nomatch h) ?_ (by exact hS) (np_next hy hP ?_))
        | (refine loop_end (acc ++ [y], ws ++ [Value.str y ty], k + 1) hsep (by assumption) (by assumption) (by exact fun _ h => h) rfl (fun _ h => nomatch h) ?_ (by assumption) (np_next hy hP ?_))
        | (refine loop_end (acc.dropLast, ws.dropLast, k + 1) hsep (by assumption) (by assumption) (by exact fun _ h => h) rfl (fun _ h => nomatch h) ?_ (by assumption) (np_next hy hP ?_))
      all_goals first
        | (intro z hz _ _; show (if z = _ then _ else _) = _; rw [if_neg hz]; rfl)
        | with_reducible exact np1 (by assumption)
        | with_reducible exact np2 (by assumption) (by assumption)
        | with_reducible exact np3 (by assumption) (by assumption) (by assumption)
        | with_reducible exact np4 (by assumption) (by assumption) (by assumption) (by assumption) (by assumption)
        | with_reducible exact np5 (by assumption) (by assumption) (by assumption) (by assumption) (by assumption)
        | with_reducible exact np6 (by assumption) (by assumption) (by assumption) (by assumption) (by assumption)
        | with_reducible exact np7 (by assumption) (by assumption) (by assumption) (by assumption) (by assumption)
        | exact np1 (by assumption)
        | exact np2 (by assumption) (by assumption)
        | exact np3 (by assumption) (by assumption) (by assumption)
        | exact np4 (by assumption) (by assumption) (by assumption) (by assumption) (by assumption)
        | exact np5 (by assumption) (by assumption) (by assumption) (by assumption) (by assumption)
        | exact np6 (by assumption) (by assumption) (by assumption) (by assumption) (by assumption)
        | exact np7 (by assumption) (by assumption) (by assumption) (by assumption) (by assumption)
    · intro c tl u h tk hoff hS hP F2 N2
      refine Classical.byContradiction fun hng9 => ?_
      obtain ⟨acc, ws, k⟩ := c
      refine hng9 ?_
      clear hng9
      dsimp only at hS hP N2
      simp only [List.cons_append, List.nil_append] at N2
      have hlen : (strValues lv).length = (Txt.split (sroot x).2 (Str.ofString "/")).length := by rw [aC.len_eq, eC]
      rw [hlen, List.take_length] at hP
      have hP' : acc = npComps x := hP
      have hW := np_weigh x
      rw [← hP'] at hW
      have hW1 : (acc.map (·.length)).sum + acc.length ≤ 1048576 := by have : _ ≤ x.length + 1 := hW; omega
      have hJ : (Txt.join (Str.ofString "/") acc).length ≤ 4 * (x.length + 1) := len_join_le hW (by decide +kernel)
      have hrl : (sroot x).1.length ≤ 100001 := Nat.le_trans (sroot_le x).2 (Nat.succ_le_succ hx)
      k_unmd
      k_steps
      all_goals (refine hret news _ _ _ ⟨rfl, np_ret ?_⟩ (by assumption) (by walk_at "Mdrop"); rw [npath, if_neg (by assumption), ← hP']; first | rw [if_neg (by assumption)] | rw [if_pos (by assumption)])
  · exact hret news _ _ _ ⟨rfl, np_ret (by rw [npath, if_pos (by assumption)])⟩ (by assumption) (by walk_at "Mdrop")
end

section
open PySem PySem.W PyProof.Rows PySem.Calls
theorem mw_P3_0 : True := by
  k_with_none
  trivial
theorem mw_P3_1 : True := by
  (k_with "Mdrop" => first | assumption | (refine' cb_drop ?cbN ?cbS; (case cbN => assumption); (case cbS => kcj_all)))
  (k_with "Muse" => (
        (case k1 => first | k_asm | ktn_no "use: the frames below")
        (case k2 => first | k_asm | ktn_no "use: the frame")
        (case k3 => first | k_asm | ktn_no "use: the written part")
        (case k4 => first | k_asm | ktn_no "use: the ledger")
        (case k5 => first | k_asm | ktn_no "use: the top's facts")
        (case k6 => first | exact rfl | assumption | ktn_no "use: the caller is no def")
        (case k7 => first | ktr_room | ktn_no "use: the frames' room")
        (case k8 => first | ktr_units | ktn_no "use: the C units")))
  (k_with "call ref" => (k_here; k_dflt (refine' Does.use ?k1 ?k2 ?k3 ?k4 ?k5 ?k6 ?k7 ?k8 (fspath_does _ _ _ _ _ _ _) ?_; walk_at "Muse"; k_whole); intro _ _ _ _ hR' _ _; obtain ⟨rfl, rfl⟩ := hR'; (try dsimp only); (try k_fold)))
  (k_with "call ref" => (k_here; k_dflt (refine' Does.use ?k1 ?k2 ?k3 ?k4 ?k5 ?k6 ?k7 ?k8 (get_sep_does _ _ _ _ _ _ _) ?_; walk_at "Muse"; k_whole); intro _ _ _ _ hR' _ _; obtain ⟨rfl, _, rfl⟩ := hR'; (try dsimp only); (try k_fold)))
  trivial
theorem mw_P3_2 : True := by
  (k_with "exec For Name Name cons nil" => (k_here; refine stuck_at ?_))
  trivial
noncomputable def pjStep (path b : Str) : Str :=
  if Txt.startswith b (Str.ofString "/") = true then b else if (path.length : Int) = 0 then b
  else if Txt.endswith path (Str.ofString "/") = true then path ++ b else path ++ (Str.ofString "/" ++ b)
theorem pjStep_len (path b : Str) : (pjStep path b).length ≤ path.length + (b.length + 1) := by
  have h2 : (Str.ofString "/").length = 1 := by decide +kernel
  unfold pjStep
  (repeat' split) <;> (try simp only [Str.length_append]) <;> (try rw [h2]) <;> omega
theorem pj_len (l : List Str) : ∀ x : Str, (l.foldl pjStep x).length ≤ x.length + ((l.map (·.length)).sum + l.length) := by
  induction l with
  | nil => intro x; simp
  | cons b r ih =>
    intro x
    have h1 := ih (pjStep x b)
    have h2 := pjStep_len x b
    simp only [List.foldl_cons, List.map_cons, List.sum_cons, List.length_cons]
    omega
theorem sum_take_le (l : List Str) (i : Nat) : ((l.take i).map (·.length)).sum + (l.take i).length ≤ (l.map (·.length)).sum + l.length := by
  have h1 : l.map (·.length) = (l.take i).map (·.length) ++ (l.drop i).map (·.length) := by rw [← List.map_append, List.take_append_drop]
  rw [h1, List.sum_append, List.length_take]
  omega
theorem mem_sum_le {l : List Str} {y : Str} (h : y ∈ l) : y.length ≤ (l.map (·.length)).sum := by
  induction l with
  | nil => cases h
  | cons a r ih =>
    rw [List.map_cons, List.sum_cons]
    rcases List.mem_cons.mp h with rfl | h
    · omega
    · have := ih h; omega
theorem pj_next {l : List Str} {i : Nat} {y x path p' : Str} (hy : l[i]? = some y) (hP : path = (l.take i).foldl pjStep x) (e : pjStep path y = p') : p' = (l.take (i + 1)).foldl pjStep x := by
  rw [List.take_add_one, hy, List.foldl_append, ← hP, ← e]; rfl
theorem pj1 {path b : Str} (h : Txt.startswith b (Str.ofString "/") = true) : pjStep path b = b := by simp only [pjStep, if_pos h]
theorem pj2 {path b : Str} (h : Txt.startswith b (Str.ofString "/") = false) (h2 : (path.length : Int) = 0) : pjStep path b = b := by simp only [pjStep, h, Bool.false_eq_true, if_false, if_pos h2]
theorem pj3 {path b : Str} (h : Txt.startswith b (Str.ofString "/") = false) (h2 : (path.length : Int) ≠ 0) (h3 : Txt.endswith path (Str.ofString "/") = true) : pjStep path b = path ++ b := by simp only [pjStep, h, Bool.false_eq_true, if_false, if_neg h2, if_pos h3]
theorem pj4 {path b : Str} (h : Txt.startswith b (Str.ofString "/") = false) (h2 : (path.length : Int) ≠ 0) (h3 : Txt.endswith path (Str.ofString "/") = false) : pjStep path b = path ++ (Str.ofString "/" ++ b) := by simp only [pjStep, h, h3, Bool.false_eq_true, if_false, if_neg h2]
theorem join_does (w : World) (mean : ExcName → Option Value) (mg mb : Str → Option Value) (news : List (Addr × Obj)) (x : Str) (t : Tok) (ws : List Value) (ps : List Str) (hS : StrsAre ws ps) (hx : x.length + (ps.map (·.length)).sum + ps.length ≤ 100000) :
  Does PySem.Challenge.rw_rx0110_02.row.prog w (hd.heap_39 w.params) topProg (looseW hd.view_39 [Str.ofString "_twin_re_1", Str.ofString "_special_chars_map"] ++ (recsOf hd.view_39).map (fun x => x.name) ++ (litsOf hd.view_39).map (fun x => x.1) ++ (clssOf hd.view_39 (looseW hd.view_39 [Str.ofString "_twin_re_1", Str.ofString "_special_chars_map"])).map (fun x => x.name)) mean mg mb 156 3 news (Value.str x t :: ws) (fun n r => news = n ∧ ∃ u, r = .str (ps.foldl pjStep x) u) := by
  k_fill
  unfold Does
  intro dp un gd cn cs a ccd cl outer A₀ base h₀ L m s Q E B F X N T hk hd hu hret
  refine wpAny_call ?_
  k_dflt (refine' kp_rest (vs := ws) ?k1 ?k2 ?k3 ?k4 ?k5 ?kA ?kF ?kK ?k6 ?k7 ?k8 ?kV ?kP ?kG ?kB ?_ ?c2 ?c3 ?c4 ?c5; (case kA => exact rfl); (case kF => exact rfl); (case kK => assumption); (case k1 => k_asm); (case k2 => k_asm); (case k3 => k_asm); (case k4 => k_asm); (case k5 => k_asm); (case k6 => k_is); (case k7 => k_is); (case k8 => ktr_room); (case kV => exact rfl); (case kP => exact bind_star rfl rfl (by have := hS.len_eq; rw [sizeLine_eq]; omega) rfl rfl); (case kG => exact fun _ => rfl); (case kB => exact fun _ => locs rfl); (case c5 => decide); (case c2 => exact rfl); (case c3 => exact rfl); (case c4 => exact rfl); k_whole)
  intro D' g' L' h' l1 FG' F' N' B' X' T'
  (try dsimp only)
  (try k_fold)
  k_steps
  rename Fr _ _ _ _ => F1
  rename News _ _ _ (_ :: news) => N1
  unfold Stuck
  refine For_invVF F1 rfl rfl ?_
  walk1
  refine loop_tup (σ := Str × Tok) (fun _ => []) ((D', { cls := .type "tuple", data := .seq ws.toArray 0 }) :: news) (fun c => [(Str.ofString "path", .str c.1 c.2)]) (fun _ _ => True) []
      (fun i c => c.1 = (ps.take i).foldl pjStep x) (D' :: news.map (·.1)) (x, t) rfl (.head _) F1 N1 (fun _ h => by simpa using h) (fun _ => rfl) trivial (by simp only [List.forall_mem_cons]; exact ⟨rfl, fun _ h => nomatch h⟩) rfl ?_ ?_
  · intro c tl i v u h tk own hv hsep hoff _ hP F2 N2
    obtain ⟨path, tp⟩ := c
    refine Classical.byContradiction fun hng9 => ?_
    obtain ⟨y, ty, rfl, hy⟩ := StrsAre.item hS i v hv
    refine hng9 ?_
    clear hng9
    dsimp only at hP N2
    simp only [List.cons_append, List.nil_append] at N2
    have hyl : y.length ≤ 100000 := by have := mem_sum_le (List.mem_of_getElem? hy); omega
    have hpl : path.length ≤ 100000 := by have h1 := pj_len (ps.take i) x; have h2 := sum_take_le ps i; rw [← hP] at h1; omega
    have hsl : (Str.ofString "/").length = 1 := by decide +kernel
    k_unmd
    k_fold
    k_steps
    all_goals (
      refine' loop_end (_, _) hsep (by assumption) (by assumption) (fun _ h => h) rfl ?_ ?_ trivial (pj_next hy hP ?_)
      rotate_left 2
      (refine List.forall_mem_cons.mpr ⟨?_, fun _ h => nomatch h⟩; (dsimp only); with_unfolding_all rfl)
      (intro z hz hp9 _; have hz2 := hp9 _ (.head _); dsimp only at hz2; focus ((try dsimp only [kstB]); repeat (first | rfl | (refine (if_neg (by simp [hz, hz2])).trans ?_))))
      first
      | exact pj1 (by assumption)
      | exact pj2 (by assumption) (by assumption)
      | exact pj3 (by assumption) (by assumption) (by assumption)
      | exact pj4 (by assumption) (by assumption) (by assumption))
  · intro c tl u h tk hoff _ hP F2 N2
    obtain ⟨path, tp⟩ := c
    have hlen : ws.length = ps.length := hS.len_eq
    rw [hlen, List.take_length] at hP
    dsimp only at hP N2
    simp only [List.cons_append, List.nil_append] at N2
    k_unmd
    k_steps
    all_goals exact hret news _ _ _ ⟨rfl, _, by rw [← hP]⟩ (by assumption) (by walk_at "Mdrop")
end

section
open PySem PySem.W PyProof.Rows PySem.Calls
theorem mw_P4_0 : True := by
  k_with_none
  trivial
theorem mw_P4_1 : True := by
  (k_with "Mdrop" => first | assumption | (refine' cb_drop ?cbN ?cbS; (case cbN => assumption); (case cbS => kcj_all)))
  (k_with "Muse" => (
        (case k1 => first | k_asm | ktn_no "use: the frames below")
        (case k2 => first | k_asm | ktn_no "use: the frame")
        (case k3 => first | k_asm | ktn_no "use: the written part")
        (case k4 => first | k_asm | ktn_no "use: the ledger")
        (case k5 => first | k_asm | ktn_no "use: the top's facts")
        (case k6 => first | exact rfl | assumption | ktn_no "use: the caller is no def")
        (case k7 => first | ktr_room | ktn_no "use: the frames' room")
        (case k8 => first | ktr_units | ktn_no "use: the C units")))
  (k_with "call ref" => (k_here; k_dflt (refine' Does.use ?k1 ?k2 ?k3 ?k4 ?k5 ?k6 ?k7 ?k8 (fspath_does _ _ _ _ _ _ _) ?_; walk_at "Muse"; k_whole); intro _ _ _ _ hR' _ _; obtain ⟨rfl, rfl⟩ := hR'; (try dsimp only); (try k_fold)))
  (k_with "call ref" => (k_here; k_dflt (refine' Does.use ?k1 ?k2 ?k3 ?k4 ?k5 ?k6 ?k7 ?k8 (get_sep_does _ _ _ _ _ _ _) ?_; walk_at "Muse"; k_whole); intro _ _ _ _ hR' _ _; obtain ⟨rfl, _, rfl⟩ := hR'; (try dsimp only); (try k_fold)))
  trivial

noncomputable def hd0 (x : Str) : Str := Txt.slice x none (some (Txt.rfind x (Str.ofString "/") + 1))
noncomputable def splitP (x : Str) : Str × Str :=
  (if ((hd0 x).length : Int) = 0 then hd0 x
   else if (hd0 x != Txt.mul (Str.ofString "/") ((hd0 x).length : Int)) = true then Txt.rstripChars (hd0 x) (Str.ofString "/") else hd0 x,
   Txt.slice x (some (Txt.rfind x (Str.ofString "/") + 1)) none)
theorem split_does (w : World) (mean : ExcName → Option Value) (mg mb : Str → Option Value) (news : List (Addr × Obj)) (x : Str) (t : Tok) (hx : x.length ≤ 100000) :
  Does PySem.Challenge.rw_rx0110_02.row.prog w (hd.heap_39 w.params) topProg (looseW hd.view_39 [Str.ofString "_twin_re_1", Str.ofString "_special_chars_map"] ++ (recsOf hd.view_39).map (fun x => x.name) ++ (litsOf hd.view_39).map (fun x => x.1) ++ (clssOf hd.view_39 (looseW hd.view_39 [Str.ofString "_twin_re_1", Str.ofString "_special_chars_map"])).map (fun x => x.name)) mean mg mb 163 3 news [Value.str x t] (PrO news (splitP x).1 (splitP x).2) := by
  k_fill
  unfold Does
  intro dp un gd cn cs a ccd cl outer A₀ base h₀ L m s Q E B F X N T hk hd hu hret
  refine wpAny_call ?_
  (k_dflt cell_enter)
  k_steps
  all_goals (refine hret _ _ _ _ (pr_mk (p := splitP x) ?_ ?_) (by assumption) (by walk_at "Mdrop"); clear hret)
  all_goals first
    | exact And.right (by assumption)
    | (rw [splitP]; unfold hd0; first | rw [if_neg (by assumption), if_pos (by assumption)] | rw [if_neg (by assumption), if_neg (ne_true_of_eq_false (by assumption))] | rw [if_pos (by assumption)])
end

section
open PySem PySem.W PyProof.Rows PySem.Calls
theorem mw_P5_0 : True := by
  k_with_none
  trivial
theorem mw_P5_1 : True := by
  (k_with "Mdrop" => first | assumption | (refine' cb_drop ?cbN ?cbS; (case cbN => assumption); (case cbS => kcj_all)))
  (k_with "Muse" => (
        (case k1 => first | k_asm | ktn_no "use: the frames below")
        (case k2 => first | k_asm | ktn_no "use: the frame")
        (case k3 => first | k_asm | ktn_no "use: the written part")
        (case k4 => first | k_asm | ktn_no "use: the ledger")
        (case k5 => first | k_asm | ktn_no "use: the top's facts")
        (case k6 => first | exact rfl | assumption | ktn_no "use: the caller is no def")
        (case k7 => first | ktr_room | ktn_no "use: the frames' room")
        (case k8 => first | ktr_units | ktn_no "use: the C units")))
  trivial
theorem mw_P5_2 : True := by
  (k_with "call ref" => (k_here; k_dflt (refine' Does.use ?k1 ?k2 ?k3 ?k4 ?k5 ?k6 ?k7 ?k8 (split_does _ _ _ _ _ _ _ (by assumption)) ?_; walk_at "Muse"; k_whole); intro _ _ _ _ hR' _ _; obtain ⟨_, _, _, rfl, rfl, _⟩ := hR'; (try dsimp only); (try k_fold)))
  (k_with "exec While Compare cons nil" => (k_here; refine stuck_at ?_))
  (k_with "binaryOp Add ref ref" => (k_here; (with_reducible show wpAny _ _ (binaryOp _ (Value.ref _) (Value.ref _)) _ _ _); k_dflt (refine' add_vals ?k1 ?k2 ?k3 ?k4 ?k5 ?_; (case k1 => k_asm); (case k2 => k_asm); (case k3 => k_mem); (case k4 => k_mem); (case k5 => (simp only [List.length_cons, List.length_nil]; omega)); k_whole); intro _ _ _ _ l1; (try k_lt l1); (try (revert l1; intro _))))
  trivial
inductive TailsOf : Str → List Str → Prop
  | stop {p : Str} : (Txt.stripChars p (Str.ofString "/") != Str.ofString "") = false → TailsOf p [p]
  | step {p : Str} {l : List Str} : (Txt.stripChars p (Str.ofString "/") != Str.ofString "") = true → (splitP p).1.length ≤ p.length → (splitP p).2.length ≤ p.length → TailsOf (splitP p).1 l → TailsOf p (l ++ [(splitP p).2])
structure TlSt where
  path : Str
  tp : Tok
  D : Addr
  acc : List Str
  ws : List Value
  k : Nat
  lf : List Str
theorem tails_does (w : World) (mean : ExcName → Option Value) (mg mb : Str → Option Value) (news : List (Addr × Obj)) (x : Str) (t : Tok) (l : List Str) (hl : TailsOf x l) (hn : l.length ≤ 1000) (hx : x.length ≤ 100000) :
  Does PySem.Challenge.rw_rx0110_02.row.prog w (hd.heap_39 w.params) topProg (looseW hd.view_39 [Str.ofString "_twin_re_1", Str.ofString "_special_chars_map"] ++ (recsOf hd.view_39).map (fun x => x.name) ++ (litsOf hd.view_39).map (fun x => x.1) ++ (clssOf hd.view_39 (looseW hd.view_39 [Str.ofString "_twin_re_1", Str.ofString "_special_chars_map"])).map (fun x => x.name)) mean mg mb 208 4 news [Value.str x t] (LiO news l) := by
  k_fill
  unfold Does
  intro dp un gd cn cs a ccd cl outer A₀ base h₀ L m s Q E B F X N T hk hd hu hret
  refine wpAny_call ?_
  (k_dflt cell_enter)
  k_steps
  · rename_i Dt _ lt h1 F1 N1
    unfold Stuck
    refine ksw_while (σ := TlSt) (fun c => (c.D, listOf c.ws.toArray c.k) :: news) (fun c => [(Str.ofString "path", .str c.path c.tp), (Str.ofString "tails", .ref c.D)]) (fun c => StrsAre c.ws c.acc ∧ AllLt c.D news) [Str.ofString "tail"]
      (fun c => TailsOf c.path c.lf ∧ c.lf ++ c.acc = l ∧ c.path.length ≤ 100000) (fun c => c.lf.length) ⟨x, t, Dt, [], [], 0, l⟩ F1 N1 ⟨.nil, allLt_of lt⟩ (by k_dflt (exact List.forall_mem_cons.mpr ⟨rfl, List.forall_mem_cons.mpr ⟨rfl, fun _ h => nomatch h⟩⟩)) ⟨hl, by simp, hx⟩ ?_
    intro c u h tk hF hP F2 N2
    refine Classical.byContradiction fun hng9 => ?_
    obtain ⟨path, tp, D, acc, ws, k, lf⟩ := c
    refine hng9 ?_
    clear hng9
    dsimp only at hF hP N2
    obtain ⟨hS, hlt⟩ := hF
    refine Classical.byContradiction fun hng9 => ?_
    obtain ⟨hT, hcat, hpl⟩ := hP
    refine hng9 ?_
    clear hng9
    have hacc : acc.length ≤ 1000 := by have := congrArg List.length hcat; rw [List.length_append] at this; omega
    have hws : ws.length ≤ 1000 := by rw [hS.len_eq]; exact hacc
    k_unmd
    k_fold
    k_steps
    · cases hT with
      | stop h9 => exfalso; rename ((Txt.stripChars _ _ != _) = true) => h8; rw [h9] at h8; exact Bool.false_ne_true h8
      | step h1 h2 h3 hT' =>
        refine' ksw_end (TlSt.mk (splitP path).1 _ _ ((splitP path).2 :: acc) (Value.str (splitP path).2 _ :: ws) 0 _) (by assumption) (by assumption) ?_ ⟨.cons _ _ hS, ?_⟩ ?_ ?_ ⟨hT', ?_, ?_⟩ ?_
        rotate_left 5
        (refine List.forall_mem_cons.mpr ⟨?_, List.forall_mem_cons.mpr ⟨?_, fun _ h => nomatch h⟩⟩ <;> (dsimp only; with_unfolding_all rfl))
        · intro z h2 h3
          have e1 := h2 _ (.head _)
          have e2 := h2 _ (.tail _ (.head _))
          dsimp only at e1 e2
          have e3 : z ≠ Str.ofString "tail" := by intro e; subst e; simp at h3
          ((try dsimp only [kstB]); repeat (first | rfl | (refine (if_neg (by simp [e1, e2, e3])).trans ?_)))
        · rw [← hcat]; simp
        · exact Nat.le_trans h2 hpl
        · simp
        · intro p hp
          rcases List.mem_cons.mp hp with rfl | hp
          · exact .head _
          · exact .tail _ (.tail _ (.tail _ (.tail _ hp)))
        · dsimp only
          rename (_ < _ ∧ _ < _ ∧ _ < _ ∧ AllLt _ _) => hq
          exact hq.2.2.2
    · cases hT with
      | step h9 => exfalso; rename ((Txt.stripChars _ _ != _) = false) => h8; rw [h9] at h8; exact Bool.false_ne_true h8.symm
      | stop h9 =>
        rename (_ < _ ∧ _ < _ ∧ AllLt _ _) => hq
        refine hret _ _ _ _ ⟨_, _, _, rfl, rfl, ?_, hq.2.2⟩ (by assumption) (by walk_at "Mdrop")
        rw [← hcat]
        exact .cons _ _ hS
end

section
open PySem PySem.W PyProof.Rows PySem.Calls PySem.Builtin PySem.Builtin.Str
theorem len_app (x y : Str) : (x ++ y).length = x.length + y.length := strLen_append x y
/-! join and the parts -/
noncomputable abbrev noSl (x : Str) : Prop := Txt.startswith x (Str.ofString "/") = false
theorem comps_pj {p b : Str} (hb : noSl b) : comps (pjStep p b) = comps p ++ comps b := by
  unfold pjStep
  rw [if_neg (by rw [hb]; exact Bool.false_ne_true)]
  split
  · rename_i h0
    rw [eq_nil_of (by lia : p.length = 0), comps_nil, List.nil_append]
  · split
    · rename_i h1
      obtain ⟨q, rfl⟩ := ends_of h1
      rw [app_assoc, comps_app, comps_slash]
    · exact comps_app p b
theorem comps_fold : ∀ {l : List Str} {p : Str}, (∀ b ∈ l, noSl b) → comps (l.foldl pjStep p) = comps p ++ l.flatMap comps
  | [], p, _ => by simp
  | b :: l, p, h => by
    rw [List.foldl_cons, comps_fold (fun x hx => h x (.tail _ hx)), comps_pj (h b (.head _)), List.flatMap_cons, List.append_assoc]
/-- a root ahead -/
theorem pj_root {q p b : Str} (hq : Txt.endswith q (Str.ofString "/") = true) (hb : noSl b) (hql : q.length ≠ 0) : pjStep (q ++ p) b = q ++ pjStep p b := by
  unfold pjStep
  have hb' : Txt.startswith b (Str.ofString "/") = false := hb
  simp only [hb', Bool.false_eq_true, if_false]
  have hl : ¬ ((q ++ p).length : Int) = 0 := by rw [len_app]; lia
  rw [if_neg hl]
  by_cases h0 : p.length = 0
  · have e := eq_nil_of h0
    subst e
    rw [app_nil, if_pos hq, if_pos (by decide +kernel : ((Str.ofString "").length : Int) = 0)]
  · rw [ends_app h0, if_neg (by lia : ¬ ((p.length : Int) = 0))]
    split
    · exact app_assoc _ _ _
    · exact app_assoc _ _ _
theorem fold_root {q : Str} (hq : Txt.endswith q (Str.ofString "/") = true) (hql : q.length ≠ 0) : ∀ {l : List Str} {p : Str}, (∀ b ∈ l, noSl b) → l.foldl pjStep (q ++ p) = q ++ l.foldl pjStep p
  | [], _, _ => rfl
  | b :: l, p, h => by
    rw [List.foldl_cons, List.foldl_cons, pj_root hq (h b (.head _)) hql, fold_root hq hql (fun x hx => h x (.tail _ hx))]
theorem starts_app {p b : Str} (hp : p.length ≠ 0) : Txt.startswith (p ++ b) (Str.ofString "/") = Txt.startswith p (Str.ofString "/") := by
  rw [starts_iff, starts_iff, cl_app]
  have := cl_len p
  cases h : cl p with
  | nil => rw [h] at this; exact absurd this.symm hp
  | cons a r => rfl
theorem noSl_nil : noSl (Str.ofString "") := by show Txt.startswith _ _ = false; decide +kernel
theorem pj_noSl {p b : Str} (hp : noSl p) (hb : noSl b) : noSl (pjStep p b) := by
  unfold pjStep
  rw [if_neg (by rw [hb]; exact Bool.false_ne_true)]
  split
  · exact hb
  · rename_i h0
    have h0' : p.length ≠ 0 := by lia
    split
    · show Txt.startswith _ _ = false; rw [starts_app h0']; exact hp
    · show Txt.startswith _ _ = false; rw [starts_app h0']; exact hp
theorem fold_noSl : ∀ {l : List Str} {p : Str}, noSl p → (∀ b ∈ l, noSl b) → noSl (l.foldl pjStep p)
  | [], _, hp, _ => hp
  | b :: l, p, hp, h => fold_noSl (l := l) (pj_noSl hp (h b (.head _))) fun x hx => h x (.tail _ hx)
/-! the root -/
theorem bne_false_of {a b : Str} (h : a = b) : (a != b) = false := by rw [h]; exact bne_self_eq_false b
theorem ne_of_cl {a b : Str} (h : cl a ≠ cl b) : (a != b) = true := bne_iff_ne.mpr fun e => h (by rw [e])
theorem noSl_cl {x : Str} (h : noSl x) : (cl x).head? ≠ some 47 := by
  rw [noSl, starts_iff] at h
  exact of_decide_eq_false h
theorem sl1 (x : Str) : cl (Txt.slice x none (some 1)) = (cl x).take 1 := cl_slice_to x 1
theorem sl12 (x : Str) : cl (Txt.slice x (some 1) (some 2)) = ((cl x).drop 1).take 1 := cl_slice x 1 2
theorem sl23 (x : Str) : cl (Txt.slice x (some 2) (some 3)) = ((cl x).drop 2).take 1 := cl_slice x 2 3
theorem sl1f (x : Str) : cl (Txt.slice x (some 1) none) = (cl x).drop 1 := cl_slice_from x 1
theorem sl2f (x : Str) : cl (Txt.slice x (some 2) none) = (cl x).drop 2 := cl_slice_from x 2
theorem sl2t (x : Str) : cl (Txt.slice x none (some 2)) = (cl x).take 2 := cl_slice_to x 2
theorem take1_ne {l : List Nat} (h : l.head? ≠ some 47) : l.take 1 ≠ [47] := by cases l <;> simp_all
theorem sroot0 {x : Str} (h : noSl x) : sroot x = (Str.ofString "", x) := by
  unfold sroot
  rw [if_pos (ne_of_cl (by rw [sl1, cl_sl]; exact take1_ne (noSl_cl h)))]
theorem cl_s2 : cl (Str.ofString "//") = [47, 47] := by decide +kernel
theorem cl_s3 : cl (Str.ofString "///") = [47, 47, 47] := by decide +kernel
theorem sroot1 {x : Str} (h : noSl x) : sroot (Str.ofString "/" ++ x) = (Str.ofString "/", x) := by
  unfold sroot
  rw [if_neg (by rw [bne_false_of (cl_ext (by rw [sl1, cl_app, cl_sl]; rfl))]; exact Bool.false_ne_true)]
  rw [if_pos (ne_of_cl (by rw [sl12, cl_app, cl_sl]; exact take1_ne (noSl_cl h)))]
  have e : Txt.slice (Str.ofString "/" ++ x) (some 1) none = x := cl_ext (by rw [sl1f, cl_app, cl_sl]; rfl)
  rw [e]
theorem sroot2 {x : Str} (h : noSl x) : sroot (Str.ofString "//" ++ x) = (Str.ofString "//", x) := by
  unfold sroot
  rw [if_neg (by rw [bne_false_of (cl_ext (by rw [sl1, cl_app, cl_s2, cl_sl]; rfl))]; exact Bool.false_ne_true)]
  rw [if_neg (by rw [bne_false_of (cl_ext (by rw [sl12, cl_app, cl_s2, cl_sl]; rfl))]; exact Bool.false_ne_true)]
  have e0 : (Txt.slice (Str.ofString "//" ++ x) (some 2) (some 3) == Str.ofString "/") = false := by
    rw [beq_eq_false_iff_ne]
    intro e
    have := congrArg cl e
    rw [sl23, cl_app, cl_s2, cl_sl] at this
    exact take1_ne (noSl_cl h) this
  rw [if_neg (by rw [e0]; exact Bool.false_ne_true)]
  have e1 : Txt.slice (Str.ofString "//" ++ x) none (some 2) = Str.ofString "//" := cl_ext (by rw [sl2t, cl_app, cl_s2]; rfl)
  have e2 : Txt.slice (Str.ofString "//" ++ x) (some 2) none = x := cl_ext (by rw [sl2f, cl_app, cl_s2]; rfl)
  rw [e1, e2]
theorem sroot3 {x : Str} : sroot (Str.ofString "///" ++ x) = (Str.ofString "/", Str.ofString "//" ++ x) := by
  unfold sroot
  rw [if_neg (by rw [bne_false_of (cl_ext (by rw [sl1, cl_app, cl_s3, cl_sl]; rfl))]; exact Bool.false_ne_true)]
  rw [if_neg (by rw [bne_false_of (cl_ext (by rw [sl12, cl_app, cl_s3, cl_sl]; rfl))]; exact Bool.false_ne_true)]
  have e0 : (Txt.slice (Str.ofString "///" ++ x) (some 2) (some 3) == Str.ofString "/") = true := by
    rw [beq_iff_eq]
    exact cl_ext (by rw [sl23, cl_app, cl_s3, cl_sl]; rfl)
  rw [if_pos e0]
  have e2 : Txt.slice (Str.ofString "///" ++ x) (some 1) none = Str.ofString "//" ++ x := cl_ext (by rw [sl1f, cl_app, cl_app, cl_s3, cl_s2]; rfl)
  rw [e2]
/-! the steps -/
theorem fold_filter {root : Str} : ∀ (l : List Str) (acc : List Str), l.foldl (npStep root) acc = (l.filter fun p => decide (p.length ≠ 0)).foldl (npStep root) acc
  | [], _ => rfl
  | x :: l, acc => by
    rw [List.foldl_cons, List.filter_cons]
    by_cases h : x.length = 0
    · rw [if_neg (by simpa using h), fold_filter l, show npStep root acc x = acc by unfold npStep; rw [if_pos h]]
    · rw [if_pos (by simpa using h), List.foldl_cons, fold_filter l]
theorem fold_sp {root : Str} (x : Str) (acc : List Str) : (sp x).foldl (npStep root) acc = (comps x).foldl (npStep root) acc := fold_filter _ _
/-- a name -/
noncomputable def nm (c : Str) : Prop := c.length ≠ 0 ∧ c ≠ Str.ofString "." ∧ c ≠ Str.ofString ".."
theorem np_name {root : Str} {acc : List Str} {c : Str} (h : nm c) : npStep root acc c = acc ++ [c] := by
  unfold npStep
  rw [if_neg h.1, if_neg (by rw [beq_iff_eq]; exact h.2.1), if_pos (bne_iff_ne.mpr h.2.2)]
theorem np_dot {root : Str} {acc : List Str} : npStep root acc (Str.ofString ".") = acc := by
  unfold npStep
  rw [if_neg (by decide +kernel), if_pos (by decide +kernel)]
theorem np_pop {root : Str} {acc : List Str} {c : Str} (h : nm c) : npStep root (acc ++ [c]) (Str.ofString "..") = acc := by
  unfold npStep
  rw [if_neg (by decide +kernel), if_neg (by decide +kernel), if_neg (by decide +kernel), if_neg (by simp), if_neg (by simp; exact h.2.2), List.dropLast_concat]
theorem nm_of {c : Str} (h : (decide (c.length ≠ 0) && !(c == Str.ofString ".") && !(c == Str.ofString "..")) = true) : nm c := by
  simp only [Bool.and_eq_true, decide_eq_true_eq, Bool.not_eq_true', beq_eq_false_iff_ne] at h
  exact ⟨h.1.1, h.1.2, h.2⟩
noncomputable def detourTab : List Str := [Str.ofString "*/..", Str.ofString "[.]/../.", Str.ofString "", Str.ofString "[/..", Str.ofString "a/b]/../..", Str.ofString ".", Str.ofString "[!/a/..//.."]
theorem detour_noSl : ∀ d ∈ detourTab, noSl d := by
  have : (detourTab.all fun d => Txt.startswith d (Str.ofString "/") == false) = true := by decide +kernel
  intro d hd
  simpa using List.all_eq_true.mp this d hd
theorem comps_join {l : List Str} (hn : l ≠ []) (h : ∀ p ∈ l, 47 ∉ cl p) {x : Str} (e : Str.join ⟨#[47]⟩ l = x) : comps x = l.filter fun p => decide (p.length ≠ 0) := by
  unfold comps; rw [sp_of hn h e]
theorem detour_back {root : Str} : ∀ d ∈ detourTab, ∀ acc, (comps d).foldl (npStep root) acc = acc := by
  have f : ∀ (l : List Str), (l.all fun p => !((cl p).contains 47)) = true → ∀ p ∈ l, 47 ∉ cl p := fun l h p hp => by
    have := List.all_eq_true.mp h p hp
    simpa using this
  have c (s : String) (l : List String) (h : (decide (l ≠ []) && (l.map Str.ofString).all (fun p => !((cl p).contains 47)) && decide (Str.join ⟨#[47]⟩ (l.map Str.ofString) = Str.ofString s)) = true) : comps (Str.ofString s) = (l.map Str.ofString).filter fun p => decide (p.length ≠ 0) := by
    simp only [Bool.and_eq_true, decide_eq_true_eq] at h
    exact comps_join (by simpa using h.1.1) (f _ h.1.2) h.2
  intro d hd acc
  simp only [detourTab, List.mem_cons, List.not_mem_nil, or_false] at hd
  rcases hd with rfl | rfl | rfl | rfl | rfl | rfl | rfl
  · rw [c _ ["*", ".."] (by decide +kernel)]
    show npStep root (npStep root acc (Str.ofString "*")) (Str.ofString "..") = acc
    rw [np_name (c := Str.ofString "*") (nm_of (by decide +kernel)), np_pop (nm_of (by decide +kernel))]
  · rw [c _ ["[.]", "..", "."] (by decide +kernel)]
    show npStep root (npStep root (npStep root acc (Str.ofString "[.]")) (Str.ofString "..")) (Str.ofString ".") = acc
    rw [np_name (c := Str.ofString "[.]") (nm_of (by decide +kernel)), np_pop (nm_of (by decide +kernel)), np_dot]
  · rw [comps_nil]; rfl
  · rw [c _ ["[", ".."] (by decide +kernel)]
    show npStep root (npStep root acc (Str.ofString "[")) (Str.ofString "..") = acc
    rw [np_name (c := Str.ofString "[") (nm_of (by decide +kernel)), np_pop (nm_of (by decide +kernel))]
  · rw [c _ ["a", "b]", "..", ".."] (by decide +kernel)]
    show npStep root (npStep root (npStep root (npStep root acc (Str.ofString "a")) (Str.ofString "b]")) (Str.ofString "..")) (Str.ofString "..") = acc
    rw [np_name (c := Str.ofString "a") (nm_of (by decide +kernel)), np_name (c := Str.ofString "b]") (nm_of (by decide +kernel)), np_pop (c := Str.ofString "b]") (nm_of (by decide +kernel)), np_pop (nm_of (by decide +kernel))]
  · rw [c _ ["."] (by decide +kernel)]
    show npStep root acc (Str.ofString ".") = acc
    rw [np_dot]
  · rw [c _ ["[!", "a", "..", "", ".."] (by decide +kernel)]
    show npStep root (npStep root (npStep root (npStep root acc (Str.ofString "[!")) (Str.ofString "a")) (Str.ofString "..")) (Str.ofString "..") = acc
    rw [np_name (c := Str.ofString "[!") (nm_of (by decide +kernel)), np_name (c := Str.ofString "a") (nm_of (by decide +kernel)), np_pop (c := Str.ofString "a") (nm_of (by decide +kernel)), np_pop (nm_of (by decide +kernel))]
end

section
open PySem PySem.W PyProof.Rows PySem.Calls PySem.Builtin PySem.Builtin.Str
theorem tjoin (s : Str) (l : List Str) : Txt.join s l = Str.join s l := StrLaws.glued_eq_join s l
theorem tjoin_sl (l : List Str) : Txt.join (Str.ofString "/") l = Str.join ⟨#[47]⟩ l := by rw [tjoin, sl_eq]
/-- a part that the straightening takes for a name -/
noncomputable def part (c : Str) : Prop := nm c ∧ 47 ∉ cl c
theorem part_noSl {c : Str} (h : part c) : noSl c := by
  rw [noSl, starts_iff]
  refine decide_eq_false ?_
  intro e
  exact h.2 (List.mem_of_mem_head? e)
noncomputable def partsR (l : List (Str × Str)) (d : Str) : List Str := l.flatMap (fun p => [p.1, p.2]) ++ [d]
theorem partsR_noSl {l : List (Str × Str)} {d : Str} (hl : ∀ p ∈ l, p.1 ∈ detourTab ∧ part p.2) (hd : d ∈ detourTab) : ∀ b ∈ partsR l d, noSl b := by
  intro b hb
  rcases List.mem_append.mp hb with hb | hb
  · obtain ⟨p, hp, hb⟩ := List.mem_flatMap.mp hb
    simp only [List.mem_cons, List.not_mem_nil, or_false] at hb
    rcases hb with rfl | rfl
    · exact detour_noSl _ (hl p hp).1
    · exact part_noSl (hl p hp).2
  · rw [List.mem_singleton.mp hb]; exact detour_noSl _ hd
theorem parts_fold {root : Str} {d : Str} (hd : d ∈ detourTab) : ∀ {l : List (Str × Str)} {acc : List Str}, (∀ p ∈ l, p.1 ∈ detourTab ∧ part p.2) → ((partsR l d).flatMap comps).foldl (npStep root) acc = acc ++ l.map (·.2)
  | [], acc, _ => by
    show ((comps d) ++ []).foldl (npStep root) acc = _
    rw [List.append_nil, detour_back d hd]; simp
  | p :: l, acc, h => by
    have hp := h p (.head _)
    show ((comps p.1) ++ ((comps p.2) ++ (partsR l d).flatMap comps)).foldl (npStep root) acc = _
    rw [List.foldl_append, List.foldl_append, detour_back _ hp.1, comps_one hp.2.2 hp.2.1.1]
    show List.foldl (npStep root) (npStep root acc p.2) ((partsR l d).flatMap comps) = _
    rw [np_name hp.2.1, parts_fold hd fun q hq => h q (.tail _ hq)]
    simp
theorem join_ne {s : Str} : ∀ {l : List Str}, l ≠ [] → (∀ p ∈ l, p.length ≠ 0) → (Str.join s l).length ≠ 0
  | [], h, _ => absurd rfl h
  | [x], _, h => h x (.head _)
  | x :: y :: r, _, h => by
    rw [join_cons2, app_assoc, len_app]
    have := h x (.head _)
    lia
/-- the straightened path -/
theorem norm_law {f r : Str} {us : List Str} {l : List (Str × Str)} {d : Str} (hf : (f, r, us) ∈ ([(Str.ofString "..", Str.ofString "", [Str.ofString ".."]), (Str.ofString "", Str.ofString "", []), (Str.ofString "/", Str.ofString "/", []), (Str.ofString "//", Str.ofString "//", []), (Str.ofString "///", Str.ofString "/", []), (Str.ofString "../..", Str.ofString "", [Str.ofString "..", Str.ofString ".."])] : List (Str × Str × List Str)))
    (hl : ∀ p ∈ l, p.1 ∈ detourTab ∧ part p.2) (hd : d ∈ detourTab) (hn : l ≠ []) : npath ((partsR l d).foldl pjStep f) = r ++ Str.join ⟨#[47]⟩ (us ++ l.map (·.2)) := by
  have hs := partsR_noSl hl hd
  have hne : l.map (·.2) ≠ [] := by simpa using hn
  have hpl : ∀ p ∈ l.map (·.2), p.length ≠ 0 := by
    intro p hp
    obtain ⟨q, hq, rfl⟩ := List.mem_map.mp hp
    exact (hl q hq).2.1.1
  have fin : ∀ (J R : Str), sroot J = (r, R) → J.length ≠ 0 → (comps R).foldl (npStep r) [] = us ++ l.map (·.2) → (∀ p ∈ us, p.length ≠ 0) → npath J = r ++ Str.join ⟨#[47]⟩ (us ++ l.map (·.2)) := by
    intro J R e1 e2 e3 e4
    have e5 : npComps J = us ++ l.map (·.2) := by
      unfold npComps
      rw [e1, show Txt.split R (Str.ofString "/") = sp R from rfl, fold_sp, e3]
    have e6 : (Str.join ⟨#[47]⟩ (us ++ l.map (·.2))).length ≠ 0 := join_ne (by simp [hn]) (fun p hp => (List.mem_append.mp hp).elim (e4 p) (hpl p))
    unfold npath
    rw [if_neg (by lia), e5, e1, tjoin_sl, if_neg (by rw [len_app]; lia)]
  have lenJ : ∀ (p : Str), ((partsR l d).foldl pjStep p).length ≠ 0 := by
    intro p h0
    have h1 := comps_fold (p := p) hs
    rw [eq_nil_of h0, comps_nil] at h1
    have h2 : (partsR l d).flatMap comps = [] := (List.append_eq_nil_iff.mp h1.symm).2
    have h3 := parts_fold (root := r) hd (acc := []) hl
    rw [h2] at h3
    exact hne (by simpa using h3.symm)
  have plain : ∀ (f : Str), noSl f → r = Str.ofString "" → (comps f).foldl (npStep r) [] = us → (∀ p ∈ us, p.length ≠ 0) → npath ((partsR l d).foldl pjStep f) = r ++ Str.join ⟨#[47]⟩ (us ++ l.map (·.2)) := by
    intro f hfs hr hc hu
    refine fin _ _ (by rw [hr]; exact sroot0 (fold_noSl hfs hs)) (lenJ _) ?_ hu
    rw [comps_fold hs, List.foldl_append, hc, parts_fold hd hl]
  have hR : noSl ((partsR l d).foldl pjStep (Str.ofString "")) := fold_noSl noSl_nil hs
  have cR : (comps ((partsR l d).foldl pjStep (Str.ofString ""))).foldl (npStep r) [] = l.map (·.2) := by
    rw [comps_fold hs, comps_nil, List.nil_append, parts_fold hd hl, List.nil_append]
  simp only [List.mem_cons, List.not_mem_nil, or_false, Prod.mk.injEq] at hf
  have cdd : comps (Str.ofString "..") = [Str.ofString ".."] := comps_one (by decide +kernel) (by decide +kernel)
  rcases hf with ⟨rfl, rfl, rfl⟩ | ⟨rfl, rfl, rfl⟩ | ⟨rfl, rfl, rfl⟩ | ⟨rfl, rfl, rfl⟩ | ⟨rfl, rfl, rfl⟩ | ⟨rfl, rfl, rfl⟩
  · exact plain _ (by show Txt.startswith _ _ = false; decide +kernel) rfl (by rw [cdd]; decide +kernel) (by decide +kernel)
  · exact plain _ noSl_nil rfl (by rw [comps_nil]; rfl) (by simp)
  · have e : Str.ofString "/" = Str.ofString "/" ++ Str.ofString "" := (app_nil _).symm
    rw [e, fold_root (by decide +kernel) (by decide +kernel) hs, ← e]
    exact fin _ _ (sroot1 hR) (by rw [len_app, show (Str.ofString "/").length = 1 from rfl]; lia) cR (by simp)
  · have e : Str.ofString "//" = Str.ofString "//" ++ Str.ofString "" := (app_nil _).symm
    rw [e, fold_root (by decide +kernel) (by decide +kernel) hs, ← e]
    exact fin _ _ (sroot2 hR) (by rw [len_app, show (Str.ofString "//").length = 2 from rfl]; lia) cR (by simp)
  · have e : Str.ofString "///" = Str.ofString "///" ++ Str.ofString "" := (app_nil _).symm
    rw [e, fold_root (by decide +kernel) (by decide +kernel) hs]
    refine fin _ _ sroot3 (by rw [len_app, show (Str.ofString "///").length = 3 from rfl]; lia) ?_ (by simp)
    have e2 : Str.ofString "//" ++ (partsR l d).foldl pjStep (Str.ofString "") = Str.ofString "" ++ (Str.ofString "/" ++ (Str.ofString "" ++ (Str.ofString "/" ++ (partsR l d).foldl pjStep (Str.ofString "")))) :=
      cl_ext (by simp only [cl_app, cl_s2, cl_sl, cl_nil]; rfl)
    rw [e2, comps_app, comps_app, comps_nil, List.nil_append, List.nil_append, cR]
    simp
  · refine plain _ (by show Txt.startswith _ _ = false; decide +kernel) rfl ?_ (by decide +kernel)
    have e : Str.ofString "../.." = Str.ofString ".." ++ (Str.ofString "/" ++ Str.ofString "..") := by decide +kernel
    rw [e, comps_app, cdd]
    decide +kernel
/-! the tails -/
theorem at_iff (x : Str) (i : Nat) : StrLaws.At x ⟨#[47]⟩ x.length i ↔ (cl x)[i]? = some 47 := StrLaws.subAt_one x 47 i
theorem rfind_at {q c : Str} (hc : 47 ∉ cl c) : Txt.rfind (q ++ (Str.ofString "/" ++ c)) (Str.ofString "/") = (q.length : Int) := by
  rw [sl_eq]
  have hx : cl (q ++ (⟨#[47]⟩ ++ c)) = cl q ++ 47 :: cl c := by rw [cl_app, cl_app]; rfl
  have hq : (cl (q ++ (⟨#[47]⟩ ++ c)))[q.length]? = some 47 := by
    rw [hx, ← cl_len, List.getElem?_append_right (Nat.le_refl _)]
    simp
  unfold Txt.rfind
  rcases StrLaws.last_spec (q ++ (⟨#[47]⟩ ++ c)) ⟨#[47]⟩ with ⟨_, h⟩ | ⟨i, e, h1, h2⟩
  · exact absurd ((at_iff _ _).mpr hq) (h q.length)
  · rw [e]
    have h1' := (at_iff _ _).mp h1
    have : i = q.length := by
      rcases Nat.lt_trichotomy i q.length with hlt | heq | hgt
      · exact absurd ((at_iff _ _).mpr hq) (h2 _ hlt)
      · exact heq
      · exfalso
        rw [hx, List.getElem?_append_right (by rw [cl_len]; lia), cl_len] at h1'
        obtain ⟨k, hk⟩ : ∃ k, i - q.length = k + 1 := ⟨i - q.length - 1, by lia⟩
        rw [hk, List.getElem?_cons_succ] at h1'
        exact hc (List.mem_of_getElem? h1')
    rw [this]
theorem rfind_none {c : Str} (hc : 47 ∉ cl c) : Txt.rfind c (Str.ofString "/") = -1 := by
  rw [sl_eq]
  unfold Txt.rfind
  rcases StrLaws.last_spec c ⟨#[47]⟩ with ⟨e, _⟩ | ⟨i, e, h1, _⟩
  · rw [e]
  · exact absurd (List.mem_of_getElem? ((at_iff _ _).mp h1)) hc
theorem goes_iff (c : Nat) : (Str.ofString "/").cps.contains c = true ↔ c = 47 := by
  rw [sl_eq]
  simp
theorem getD_cl (x : Str) (k : Nat) : x.cps.getD k 0 = (cl x).getD k 0 := (getD_list x k).symm
theorem mul_cl (n : Nat) : cl (Txt.mul (Str.ofString "/") (n : Int)) = List.replicate n 47 := by
  rw [sl_eq]
  have := mul_one_list 47 (n : Int)
  rw [Int.toNat_natCast] at this
  exact this
theorem strip_mid {x : Str} {i : Nat} (hi : i < x.length) (h : (cl x).getD i 0 ≠ 47) : (Txt.stripChars x (Str.ofString "/") != Str.ofString "") = true := by
  refine bne_iff_ne.mpr fun e => ?_
  have e' := congrArg Str.length e
  unfold Txt.stripChars at e'
  rw [PyProof.Rows.stripBy_eq, StrLaws.sub_len _ _ _ ?_] at e'
  · have lo := lo_facts (Str.ofString "/").cps.contains x
    have hi' := hi_facts (Str.ofString "/").cps.contains x (stripLo (Str.ofString "/").cps.contains true x) lo.1
    have h1 : stripLo (Str.ofString "/").cps.contains true x ≤ i := by
      apply Nat.le_of_not_lt
      intro hlt
      have := lo.2.1 i hlt
      rw [goes_iff, getD_cl] at this
      exact h this
    have h2 : i < stripHi (Str.ofString "/").cps.contains true x (stripLo (Str.ofString "/").cps.contains true x) := by
      apply Nat.lt_of_not_le
      intro hle
      have := hi'.2.2.1 i hle hi
      rw [goes_iff, getD_cl] at this
      exact h this
    have h3 : (Str.ofString "").length = 0 := rfl
    lia
  · exact (hi_facts _ x _ (lo_facts _ x).1).2.1
theorem rstrip_sl {q : Str} (hq : q.length ≠ 0) (h : (cl q).getD (q.length - 1) 0 ≠ 47) : Txt.rstripChars (q ++ Str.ofString "/") (Str.ofString "/") = q := by
  unfold Txt.rstripChars
  rw [PyProof.Rows.stripBy_eq]
  have lo : stripLo (Str.ofString "/").cps.contains false (q ++ Str.ofString "/") = 0 := by simp [stripLo]
  rw [lo]
  have hi' := hi_facts (Str.ofString "/").cps.contains (q ++ Str.ofString "/") 0 (Nat.zero_le _)
  have hl : (q ++ Str.ofString "/").length = q.length + 1 := by rw [len_app]; rfl
  have hx : cl (q ++ Str.ofString "/") = cl q ++ [47] := by rw [cl_app, cl_sl]
  have h1 : q.length - 1 < stripHi (Str.ofString "/").cps.contains true (q ++ Str.ofString "/") 0 := by
    apply Nat.lt_of_not_le
    intro hle
    have := hi'.2.2.1 _ hle (by lia)
    rw [goes_iff, getD_cl, hx] at this
    refine h ?_
    rw [← this]
    have : q.length - 1 < (cl q).length := by rw [cl_len]; lia
    simp [List.getD, List.getElem?_append_left this]
  have h2 : stripHi (Str.ofString "/").cps.contains true (q ++ Str.ofString "/") 0 ≠ q.length + 1 := by
    intro e
    rcases hi'.2.2.2 with h0 | h0
    · lia
    · rw [e, Nat.add_sub_cancel, getD_cl, hx] at h0
      have : (cl q ++ [47]).getD q.length 0 = 47 := by
        rw [List.getD, ← cl_len, List.getElem?_append_right (Nat.le_refl _)]
        simp
      rw [this] at h0
      have := (goes_iff 47).mpr rfl
      rw [this] at h0
      cases h0
  have h3 : stripHi (Str.ofString "/").cps.contains true (q ++ Str.ofString "/") 0 = q.length := by have := hi'.2.1; lia
  rw [h3]
  refine cl_ext ?_
  show (strSub _ 0 _).cps.toList = _
  rw [StrLaws.strSub_toList]
  show ((cl (q ++ Str.ofString "/")).drop 0).take (q.length - 0) = cl q
  rw [hx, List.drop_zero, Nat.sub_zero, ← cl_len, List.take_left]
/-- a path cut at its last slash -/
theorem split_at {q c : Str} (hc : 47 ∉ cl c) : hd0 (q ++ (Str.ofString "/" ++ c)) = q ++ Str.ofString "/" ∧ (splitP (q ++ (Str.ofString "/" ++ c))).2 = c := by
  have hx : cl (q ++ (Str.ofString "/" ++ c)) = (cl q ++ [47]) ++ cl c := by rw [cl_app, cl_app, cl_sl, List.append_assoc]
  have hlen : (cl q ++ [47]).length = q.length + 1 := by rw [List.length_append, cl_len]; rfl
  constructor
  · unfold hd0
    rw [rfind_at hc]
    refine cl_ext ?_
    rw [show ((q.length : Int) + 1) = ((q.length + 1 : Nat) : Int) from rfl, cl_slice_to, hx, ← hlen, List.take_left, cl_app, cl_sl]
  · unfold splitP
    dsimp only
    rw [rfind_at hc]
    refine cl_ext ?_
    rw [show ((q.length : Int) + 1) = ((q.length + 1 : Nat) : Int) from rfl, cl_slice_from, hx, ← hlen, List.drop_left]
theorem split_mid {q c : Str} (hc : 47 ∉ cl c) (hq : q.length ≠ 0) (h : (cl q).getD (q.length - 1) 0 ≠ 47) : splitP (q ++ (Str.ofString "/" ++ c)) = (q, c) := by
  obtain ⟨h1, h2⟩ := split_at (q := q) hc
  refine Prod.ext ?_ h2
  unfold splitP
  dsimp only
  rw [h1, if_neg (by rw [len_app]; lia), if_pos, rstrip_sl hq h]
  refine bne_iff_ne.mpr fun e => h ?_
  have e' := congrArg cl e
  rw [cl_app, cl_sl] at e'
  have hm : ∀ a ∈ cl (Txt.mul (Str.ofString "/") (((q ++ Str.ofString "/").length : Nat) : Int)), a = 47 := by
    intro a ha
    have e3 := mul_cl (q ++ Str.ofString "/").length
    rw [e3] at ha
    exact List.eq_of_mem_replicate ha
  rw [← e'] at hm
  have hlt : q.length - 1 < (cl q).length := by rw [cl_len]; lia
  have : (cl q).getD (q.length - 1) 0 = (cl q)[q.length - 1] := by simp [List.getD, hlt]
  rw [this]
  exact hm _ (List.mem_append.mpr (.inl (List.getElem_mem hlt)))
theorem split_head {c : Str} (hc : 47 ∉ cl c) : splitP c = (Str.ofString "", c) := by
  have h1 : hd0 c = Str.ofString "" := by
    unfold hd0
    rw [rfind_none hc]
    exact cl_ext (by rw [show ((-1 : Int) + 1) = ((0 : Nat) : Int) from rfl, cl_slice_to, cl_nil]; rfl)
  refine Prod.ext ?_ ?_
  · unfold splitP
    dsimp only
    rw [h1, if_pos (by decide +kernel)]
  · unfold splitP
    dsimp only
    rw [rfind_none hc]
    exact cl_ext (by rw [show ((-1 : Int) + 1) = ((0 : Nat) : Int) from rfl, cl_slice_from]; rfl)
theorem split_root1 {c : Str} (hc : 47 ∉ cl c) : splitP (Str.ofString "/" ++ c) = (Str.ofString "/", c) := by
  have h := split_at (q := Str.ofString "") hc
  rw [nil_app, nil_app] at h
  refine Prod.ext ?_ h.2
  unfold splitP
  dsimp only
  rw [h.1, if_neg (by decide +kernel), if_neg (by decide +kernel)]
theorem split_root2 {c : Str} (hc : 47 ∉ cl c) : splitP (Str.ofString "//" ++ c) = (Str.ofString "//", c) := by
  have e : Str.ofString "//" ++ c = Str.ofString "/" ++ (Str.ofString "/" ++ c) := cl_ext (by simp only [cl_app, cl_s2, cl_sl]; rfl)
  have e2 : Str.ofString "/" ++ Str.ofString "/" = Str.ofString "//" := by decide +kernel
  have h := split_at (q := Str.ofString "/") hc
  rw [← e, e2] at h
  refine Prod.ext ?_ h.2
  unfold splitP
  dsimp only
  rw [h.1, if_neg (by decide +kernel), if_neg (by decide +kernel)]
theorem last_app {q c : Str} (hc : c.length ≠ 0) : (cl (q ++ c)).getD ((q ++ c).length - 1) 0 = (cl c).getD (c.length - 1) 0 := by
  rw [cl_app, len_app]
  have e : q.length + c.length - 1 = (cl q).length + (c.length - 1) := by rw [cl_len]; lia
  rw [e, List.getD, List.getD, List.getElem?_append_right (Nat.le_add_right _ _), Nat.add_sub_cancel_left]
theorem last_free {c : Str} (hc : 47 ∉ cl c) (hn : c.length ≠ 0) : (cl c).getD (c.length - 1) 0 ≠ 47 := by
  intro h
  have hlt : c.length - 1 < (cl c).length := by rw [cl_len]; lia
  have e : (cl c).getD (c.length - 1) 0 = (cl c)[c.length - 1] := by simp [List.getD, hlt]
  rw [e] at h
  exact hc (h ▸ List.getElem_mem hlt)
theorem join_snoc (s : Str) {l : List Str} (hl : l ≠ []) (c : Str) : Str.join s (l ++ [c]) = Str.join s l ++ (s ++ c) := by
  rw [join_app s hl (by simp), app_assoc]; rfl
theorem join_last {l : List Str} (hl : l ≠ []) (h : ∀ p ∈ l, p.length ≠ 0 ∧ 47 ∉ cl p) : (cl (Str.join ⟨#[47]⟩ l)).getD ((Str.join ⟨#[47]⟩ l).length - 1) 0 ≠ 47 := by
  obtain ⟨l', c, rfl⟩ : ∃ l' c, l = l' ++ [c] := ⟨l.dropLast, l.getLast hl, (List.dropLast_concat_getLast hl).symm⟩
  have hc := h c (by simp)
  by_cases hl' : l' = []
  · subst hl'
    exact last_free hc.2 hc.1
  · rw [join_snoc _ hl', ← app_assoc, last_app hc.1]
    exact last_free hc.2 hc.1
theorem tails_law {r : Str} (hr : r = Str.ofString "" ∨ r = Str.ofString "/" ∨ r = Str.ofString "//") : ∀ {n : Nat} {l : List Str}, l.length = n + 1 → (∀ p ∈ l, p.length ≠ 0 ∧ 47 ∉ cl p) → TailsOf (r ++ Str.join ⟨#[47]⟩ l) (r :: l) := by
  have hstop : TailsOf r [r] := .stop (by rcases hr with rfl | rfl | rfl <;> decide +kernel)
  intro n
  induction n with
  | zero =>
    intro l hl h
    obtain ⟨c, rfl⟩ := List.length_eq_one_iff.mp hl
    have hc := h c (.head _)
    have e : splitP (r ++ c) = (r, c) := by
      rcases hr with rfl | rfl | rfl
      · rw [nil_app]; exact split_head hc.2
      · exact split_root1 hc.2
      · exact split_root2 hc.2
    show TailsOf (r ++ c) ([r] ++ [c])
    have := TailsOf.step (p := r ++ c) (l := [r]) (strip_mid (i := (r ++ c).length - 1) (by rw [len_app]; lia) (by rw [last_app hc.1]; exact last_free hc.2 hc.1)) (by rw [e, len_app]; dsimp only; lia) (by rw [e, len_app]; dsimp only; lia) (by rw [e]; exact hstop)
    rw [e] at this
    exact this
  | succ n ih =>
    intro l hl h
    have hne : l ≠ [] := by intro e; rw [e] at hl; cases hl
    obtain ⟨l', c, rfl⟩ : ∃ l' c, l = l' ++ [c] := ⟨l.dropLast, l.getLast hne, (List.dropLast_concat_getLast hne).symm⟩
    have hl' : l'.length = n + 1 := by simpa using hl
    have hne' : l' ≠ [] := by intro e; rw [e] at hl'; cases hl'
    have hc := h c (by simp)
    have hp : ∀ p ∈ l', p.length ≠ 0 ∧ 47 ∉ cl p := fun p hp => h p (List.mem_append.mpr (.inl hp))
    have hjl := join_ne (s := ⟨#[47]⟩) hne' fun p h' => (hp p h').1
    have hP : r ++ Str.join ⟨#[47]⟩ (l' ++ [c]) = (r ++ Str.join ⟨#[47]⟩ l') ++ (Str.ofString "/" ++ c) := by rw [join_snoc _ hne', sl_eq, app_assoc]
    have e : splitP ((r ++ Str.join ⟨#[47]⟩ l') ++ (Str.ofString "/" ++ c)) = (r ++ Str.join ⟨#[47]⟩ l', c) :=
      split_mid hc.2 (by rw [len_app]; lia) (by rw [last_app hjl]; exact join_last hne' hp)
    rw [hP]
    show TailsOf _ ((r :: l') ++ [c])
    have := TailsOf.step (p := (r ++ Str.join ⟨#[47]⟩ l') ++ (Str.ofString "/" ++ c)) (l := r :: l') (strip_mid (i := ((r ++ Str.join ⟨#[47]⟩ l') ++ (Str.ofString "/" ++ c)).length - 1) (by rw [len_app, len_app (Str.ofString "/")]; lia) (by rw [← app_assoc, last_app hc.1]; exact last_free hc.2 hc.1)) (by rw [e, len_app _ (Str.ofString "/" ++ c)]; dsimp only; lia) (by rw [e, len_app _ (Str.ofString "/" ++ c), len_app (Str.ofString "/")]; dsimp only; lia) (by rw [e]; exact ih hl' hp)
    rw [e] at this
    exact this
end

section
open PySem PySem.W PyProof.Rows PySem.Calls PySem.Builtin PySem.Builtin.Str
/-! the translation is the same behind any front -/
theorem itm_eq (x : Str) (i : Nat) : itm x i = ⟨#[(cl x).getD i 0]⟩ := by
  unfold itm Txt.item Txt.charAt
  by_cases h : i < x.length
  · rw [StrLaws.seqIndex_nonneg (by lia) (by lia)]
    have h1 : i < x.cps.size := h
    simp [cl, List.getD, h1]
  · have e : seqIndex? (i : Int) x.length = none := by
      unfold seqIndex?
      have h1 : ¬ ((i : Int) < 0) := by lia
      have h2 : decide ((i : Int) < (x.length : Int)) = false := decide_eq_false (by lia)
      simp only [h1, if_false, h2, Bool.and_false, Bool.false_eq_true]
    rw [e]
    have h1 : (cl x).length ≤ i := by rw [cl_len]; lia
    simp [List.getD, List.getElem?_eq_none h1]
theorem isAt_eq {x y : Str} {i j : Nat} (h : (cl x).getD i 0 = (cl y).getD j 0) (s : String) : isAt x i s = isAt y j s := by
  unfold isAt; rw [itm_eq, itm_eq, h]
theorem getD_pre (a q : Str) (i : Nat) : (cl (a ++ q)).getD (a.length + i) 0 = (cl q).getD i 0 := by
  rw [cl_app, List.getD, List.getD, List.getElem?_append_right (by rw [cl_len]; lia), cl_len, Nat.add_sub_cancel_left]
theorem getD_suf {p b : Str} {i : Nat} (h : i < p.length) : (cl (p ++ b)).getD i 0 = (cl p).getD i 0 := by
  rw [cl_app, List.getD, List.getD, List.getElem?_append_left (by rw [cl_len]; exact h)]
theorem lenA (x y : Str) : (x ++ y).length = x.length + y.length := strLen_append x y
/-- the scan for the closing bracket -/
theorem jScan_pre (a q : Str) : ∀ (f j : Nat), jScan (a ++ q) f (a.length + j) = a.length + jScan q f j
  | 0, _ => rfl
  | f + 1, j => by
    unfold jScan
    rw [isAt_eq (getD_pre a q j), lenA, show decide (a.length + j < a.length + q.length) = decide (j < q.length) by simp]
    split
    · rw [Nat.add_assoc, jScan_pre a q f]
    · rfl
theorem jScan_ge0 (x : Str) : ∀ (f j : Nat), j ≤ jScan x f j
  | 0, j => Nat.le_refl _
  | f + 1, j => by
    unfold jScan
    split
    · exact Nat.le_of_succ_le (jScan_ge0 x f (j + 1))
    · exact Nat.le_refl _
theorem jScan_suf (p b : Str) : ∀ (f f' j : Nat), f ≤ f' → jScan p f j < p.length → (f = 0 → isAt p j "]" = true) → p.length ≤ f + j → jScan (p ++ b) f' j = jScan p f j
  | 0, f', j, _, h, h0, hf => by
    have : jScan p 0 j = j := rfl
    lia
  | f + 1, 0, j, h, _, _, _ => by lia
  | f + 1, f' + 1, j, hff, h, h0, hf => by
    unfold jScan at h ⊢
    by_cases hj : j < p.length
    · rw [isAt_eq (getD_suf (b := b) hj), lenA, decide_eq_true (by lia : j < p.length + b.length)]
      rw [decide_eq_true hj] at h ⊢
      cases hb : isAt p j "]" with
      | true => rfl
      | false =>
        rw [hb] at h
        have h' : jScan p f (j + 1) < p.length := h
        show jScan (p ++ b) f' (j + 1) = jScan p f (j + 1)
        refine jScan_suf p b f f' (j + 1) (by lia) h' (fun e => ?_) (by lia)
        subst e
        have : jScan p 0 (j + 1) = j + 1 := rfl
        lia
    · rw [decide_eq_false hj] at h
      exact absurd (show j < p.length from h) hj
theorem jB_pre (a q : Str) (i : Nat) : jB (a ++ q) (a.length + i) = a.length + jB q i := by
  unfold jB
  rw [isAt_eq (getD_pre a q i), lenA, show decide (a.length + i < a.length + q.length) = decide (i < q.length) by simp]
  split <;> rfl
theorem jC_pre (a q : Str) (i : Nat) : jC (a ++ q) (a.length + i) = a.length + jC q i := by
  unfold jC
  rw [isAt_eq (getD_pre a q i), lenA, show decide (a.length + i < a.length + q.length) = decide (i < q.length) by simp]
  split <;> rfl
theorem jFrom_pre (a q : Str) (i : Nat) : jFrom (a ++ q) (a.length + i) = a.length + jFrom q i := by
  unfold jFrom
  rw [jB_pre, jC_pre, lenA, Nat.add_sub_add_left, jScan_pre]
theorem jB_suf {p b : Str} {i : Nat} (h : i < p.length) : jB (p ++ b) i = jB p i := by
  unfold jB
  rw [isAt_eq (getD_suf (b := b) h), lenA, decide_eq_true h, decide_eq_true (by lia : i < p.length + b.length)]
theorem jC_suf {p b : Str} {i : Nat} (h : i < p.length) : jC (p ++ b) i = jC p i := by
  unfold jC
  rw [isAt_eq (getD_suf (b := b) h), lenA, decide_eq_true h, decide_eq_true (by lia : i < p.length + b.length)]
theorem jC_ge1 (x : Str) (j : Nat) : j ≤ jC x j := by unfold jC; split <;> lia
theorem jB_ge1 (x : Str) (j : Nat) : j ≤ jB x j := by unfold jB; split <;> lia
theorem jFrom_ge1 (x : Str) (j : Nat) : j ≤ jFrom x j := Nat.le_trans (jB_ge1 x j) (Nat.le_trans (jC_ge1 x _) (jScan_ge0 x _ _))
theorem jFrom_suf {p b : Str} {i : Nat} (h : jFrom p i < p.length) : jFrom (p ++ b) i = jFrom p i := by
  have h1 : i < p.length := Nat.lt_of_le_of_lt (jFrom_ge1 p i) h
  have h2 : jB p i < p.length := Nat.lt_of_le_of_lt (Nat.le_trans (jC_ge1 p _) (jScan_ge0 p _ _)) h
  have h3 : jC p (jB p i) < p.length := Nat.lt_of_le_of_lt (jScan_ge0 p _ _) h
  unfold jFrom
  rw [jB_suf h1, jC_suf h2, lenA]
  exact jScan_suf p b _ _ _ (by lia) h (fun e => by lia) (by lia)
/-- slices -/
theorem slice_pre (a q : Str) (u v : Nat) : Txt.slice (a ++ q) (some ((a.length + u : Nat) : Int)) (some ((a.length + v : Nat) : Int)) = Txt.slice q (some (u : Int)) (some (v : Int)) := by
  refine cl_ext ?_
  rw [cl_slice, cl_slice, cl_app, Nat.add_sub_add_left]
  have : a.length + u = (cl a).length + u := by rw [cl_len]
  rw [this, List.drop_append, List.drop_eq_nil_of_le (as := cl a) (by lia), List.nil_append, Nat.add_sub_cancel_left]
theorem slice_suf {p b : Str} {u v : Nat} (h : v ≤ p.length) : Txt.slice (p ++ b) (some (u : Int)) (some (v : Int)) = Txt.slice p (some (u : Int)) (some (v : Int)) := by
  refine cl_ext ?_
  rw [cl_slice, cl_slice, cl_app]
  by_cases hu : u ≤ v
  · rw [List.drop_append_of_le_length (by rw [cl_len]; lia), List.take_append_of_le_length (by rw [List.length_drop, cl_len]; lia)]
  · have : v - u = 0 := by lia
    rw [this, List.take_zero, List.take_zero]
/-- hyphens -/
theorem dash_eq : Str.ofString "-" = ⟨#[45]⟩ := by decide +kernel
noncomputable def dashAt (x : Str) (hi i : Nat) : Bool := decide (i + 1 ≤ hi) && ((cl x)[i]? == some 45)
theorem at_dash (x : Str) (hi i : Nat) : StrLaws.At x ⟨#[45]⟩ hi i ↔ dashAt x hi i = true := by
  unfold StrLaws.At dashAt
  rw [StrLaws.subAt_eq]
  show (i + 1 ≤ hi ∧ ((((cl x).drop i).take 1) == [45]) = true) ↔ _
  rw [StrLaws.take1_drop, Bool.and_eq_true, decide_eq_true_eq, beq_iff_eq]
theorem occ_find (x : Str) (lo hi : Nat) : occurrences x (Str.ofString "-") lo hi 1 = ((List.range' lo (hi + 1 - lo)).find? (dashAt x hi)).toList := by
  rw [dash_eq]
  have hlen := StrLaws.occ_length_le x ⟨#[45]⟩ lo hi 1
  rw [StrLaws.occ_eq] at hlen ⊢
  rcases StrLaws.occ_first x ⟨#[45]⟩ hi 1 (Nat.le_refl 1) (List.range' lo (hi + 1 - lo)) lo (fun i hi => by have := List.mem_range'_1.mp hi; lia) with ⟨h0, hn⟩ | ⟨pre, a, post, e, h0, ha, hn⟩
  · rw [h0, List.find?_eq_none.mpr fun i hi' hc => hn i hi' ((at_dash x hi i).mpr hc)]
    rfl
  · have hf : (List.range' lo (hi + 1 - lo)).find? (dashAt x hi) = some a := by
      rw [e, List.find?_append, List.find?_eq_none.mpr fun i hi' hc => hn i hi' ((at_dash x hi i).mpr hc), List.find?_cons, (at_dash x hi a).mp ha]
      rfl
    rw [hf]
    generalize (forIn (List.range' lo (hi + 1 - lo)) ((#[] : Array Nat), lo) (StrLaws.occBody x ⟨#[45]⟩ hi 1)).run.fst = arr at h0 hlen ⊢
    have h1 : arr.toList[0]? = some a := by simpa using h0
    cases hL : arr.toList with
    | nil => rw [hL] at h1; cases h1
    | cons b t =>
      rw [hL] at h1 hlen
      simp at h1 hlen
      subst h1
      rw [hlen]; rfl
theorem range'_shift (d lo n : Nat) : List.range' (d + lo) n = (List.range' lo n).map (d + ·) := by
  rw [List.map_add_range']
theorem occ_pre (a q : Str) (lo hi : Nat) : occurrences (a ++ q) (Str.ofString "-") (a.length + lo) (a.length + hi) 1 = (occurrences q (Str.ofString "-") lo hi 1).map (a.length + ·) := by
  rw [occ_find, occ_find]
  have e : a.length + hi + 1 - (a.length + lo) = hi + 1 - lo := by lia
  have hp : (dashAt (a ++ q) (a.length + hi) ∘ (a.length + ·)) = dashAt q hi := by
    funext i
    show dashAt (a ++ q) (a.length + hi) (a.length + i) = _
    unfold dashAt
    rw [cl_app, List.getElem?_append_right (by rw [cl_len]; lia), cl_len, Nat.add_sub_cancel_left, show decide (a.length + i + 1 ≤ a.length + hi) = decide (i + 1 ≤ hi) by simp [Nat.add_assoc]]
  rw [e, range'_shift, List.find?_map, hp]
  cases (List.range' lo (hi + 1 - lo)).find? (dashAt q hi) <;> rfl
theorem occ_suf {p b : Str} {lo hi : Nat} (h : hi ≤ p.length) : occurrences (p ++ b) (Str.ofString "-") lo hi 1 = occurrences p (Str.ofString "-") lo hi 1 := by
  rw [occ_find, occ_find]
  have hp : dashAt (p ++ b) hi = dashAt p hi := by
    funext i
    unfold dashAt
    by_cases hi' : i + 1 ≤ hi
    · rw [cl_app, List.getElem?_append_left (by rw [cl_len]; lia)]
    · rw [decide_eq_false hi']; rfl
  rw [hp]
/-- the chunks -/
theorem chunk_pre (a q : Str) (j : Nat) : ∀ (f f' i k : Nat) (cs : List Str) {r : Nat × List Str}, f ≤ f' → chunkF q j f i k cs = some r → chunkF (a ++ q) (a.length + j) f' (a.length + i) (a.length + k) cs = some (a.length + r.1, r.2)
  | 0, _, _, _, _, _, _, h => by cases h
  | f + 1, 0, _, _, _, _, hf, _ => by lia
  | f + 1, f' + 1, i, k, cs, r, hf, h => by
    unfold chunkF at h ⊢
    rw [occ_pre]
    cases ho : occurrences q (Str.ofString "-") k j 1 with
    | nil => rw [ho] at h; cases h; rfl
    | cons k' t =>
      rw [ho] at h
      simp only [List.map_cons] at h ⊢
      split at h
      · rename_i hc
        rw [if_pos (by lia), slice_pre]
        have := chunk_pre a q j f f' (k' + 1) (k' + 3) _ (by lia) h
        rw [← Nat.add_assoc, ← Nat.add_assoc] at this
        exact this
      · cases h
theorem chunk_suf {p b : Str} {j : Nat} (hj : j ≤ p.length) : ∀ (f f' i k : Nat) (cs : List Str) {r : Nat × List Str}, f ≤ f' → chunkF p j f i k cs = some r → chunkF (p ++ b) j f' i k cs = some r
  | 0, _, _, _, _, _, _, h => by cases h
  | f + 1, 0, _, _, _, _, hf, _ => by lia
  | f + 1, f' + 1, i, k, cs, r, hf, h => by
    unfold chunkF at h ⊢
    rw [occ_suf hj]
    cases ho : occurrences p (Str.ofString "-") k j 1 with
    | nil => rw [ho] at h; exact h
    | cons k' t =>
      rw [ho] at h
      dsimp only at h ⊢
      split at h
      · rename_i hc
        rw [if_pos hc, slice_suf (by lia)]
        exact chunk_suf hj f f' (k' + 1) (k' + 3) _ (by lia) h
      · cases h
theorem stuff_pre (a q : Str) (i j : Nat) {y : Str} (h : stuffF q i j = some y) : stuffF (a ++ q) (a.length + i) (a.length + j) = some y := by
  have hp : ∀ {z}, preF q i j = some z → preF (a ++ q) (a.length + i) (a.length + j) = some z := by
    intro z hz
    unfold preF at hz ⊢
    rw [slice_pre]
    split at hz
    · rename_i hc
      rw [if_pos hc]
      unfold dashF at hz ⊢
      cases hch : chunkF q j q.length i (if isAt q i "!" then i + 2 else i + 1) [] with
      | none => rw [hch] at hz; cases hz
      | some r =>
        rw [hch] at hz
        have e : (if isAt (a ++ q) (a.length + i) "!" = true then a.length + i + 2 else a.length + i + 1) = a.length + (if isAt q i "!" = true then i + 2 else i + 1) := by
          rw [isAt_eq (getD_pre a q i)]; split <;> lia
        rw [e, chunk_pre a q j q.length (a ++ q).length i _ [] (by rw [lenA]; lia) hch]
        dsimp only at hz ⊢
        rw [slice_pre]
        exact hz
    · rename_i hc
      rw [if_neg hc]
      exact hz
  unfold stuffF at h ⊢
  cases hz : preF q i j with
  | none => rw [hz] at h; cases h
  | some z => rw [hz] at h; rw [hp hz]; exact h
theorem stuff_suf {p b : Str} {i j : Nat} (hi : i < p.length) (hj : j ≤ p.length) {y : Str} (h : stuffF p i j = some y) : stuffF (p ++ b) i j = some y := by
  have hp : ∀ {z}, preF p i j = some z → preF (p ++ b) i j = some z := by
    intro z hz
    unfold preF at hz ⊢
    rw [slice_suf hj]
    split at hz
    · rename_i hc
      rw [if_pos hc]
      unfold dashF at hz ⊢
      cases hch : chunkF p j p.length i (if isAt p i "!" then i + 2 else i + 1) [] with
      | none => rw [hch] at hz; cases hz
      | some r =>
        rw [hch] at hz
        rw [isAt_eq (getD_suf (b := b) hi), chunk_suf (b := b) hj p.length (p ++ b).length i _ [] (by rw [lenA]; lia) hch]
        dsimp only at hz ⊢
        rw [slice_suf hj]
        exact hz
    · rename_i hc
      rw [if_neg hc]
      exact hz
  unfold stuffF at h ⊢
  cases hz : preF p i j with
  | none => rw [hz] at h; cases h
  | some z => rw [hz] at h; rw [hp hz]; exact h
/-- more fuel; another front -/
theorem tr_pre (a q : Str) : ∀ (f f' i : Nat) (out : List (Option Str)) {fin : List (Option Str)}, f ≤ f' → trF q f i out = some fin → trF (a ++ q) f' (a.length + i) out = some fin
  | 0, _, _, _, _, _, h => by cases h
  | f + 1, 0, _, _, _, hf, _ => by lia
  | f + 1, f' + 1, i, out, fin, hf, h => by
    unfold trF at h ⊢
    rw [isAt_eq (getD_pre a q i), isAt_eq (getD_pre a q i), isAt_eq (getD_pre a q i), lenA, itm_eq, getD_pre, Nat.add_assoc, jFrom_pre]
    rw [itm_eq] at h
    have ih : ∀ (i : Nat) (out : List (Option Str)) {fin : List (Option Str)}, trF q f i out = some fin → trF (a ++ q) f' (a.length + i) out = some fin := fun i out => tr_pre a q f f' i out (by lia)
    by_cases h1 : i < q.length
    · rw [if_pos h1] at h
      rw [if_pos (by lia)]
      by_cases h2 : isAt q i "*" = true
      · rw [if_pos h2] at h ⊢; exact ih _ _ h
      · rw [if_neg h2] at h ⊢
        by_cases h3 : isAt q i "?" = true
        · rw [if_pos h3] at h ⊢; exact ih _ _ h
        · rw [if_neg h3] at h ⊢
          by_cases h4 : isAt q i "[" = true
          · rw [if_pos h4] at h ⊢
            by_cases h5 : jFrom q (i + 1) < q.length
            · rw [if_pos h5] at h
              rw [if_pos (by lia)]
              cases hz : stuffF q (i + 1) (jFrom q (i + 1)) with
              | none => rw [hz] at h; cases h
              | some y =>
                rw [hz] at h
                rw [stuff_pre a q _ _ hz]
                dsimp only at h ⊢
                rw [Nat.add_assoc]
                exact ih _ _ h
            · rw [if_neg h5] at h
              rw [if_neg (by lia)]
              exact ih _ _ h
          · rw [if_neg h4] at h ⊢
            split at h
            · rename_i h6
              rw [if_pos h6]
              exact ih _ _ h
            · cases h
    · rw [if_neg h1] at h
      rw [if_neg (by lia)]
      exact h
end

section
open PySem PySem.W PyProof.Rows PySem.Calls PySem.Builtin PySem.Builtin.Str
/-! the translation, piece by piece -/
noncomputable def T (q : Str) (out fin : List (Option Str)) : Prop := trF q (q.length + 1) 0 out = some fin
theorem T_next (p b : Str) {out fin : List (Option Str)} (hp : p.length ≠ 0) (h : T b out fin) : trF (p ++ b) ((p ++ b).length) p.length out = some fin := by
  have := tr_pre p b (b.length + 1) ((p ++ b).length) 0 out (by rw [lenA]; lia) h
  exact this
theorem getD_0 {p b : Str} (hp : p.length ≠ 0) : (cl (p ++ b)).getD 0 0 = (cl p).getD 0 0 := getD_suf (by lia)
theorem lt_0 {p b : Str} (hp : p.length ≠ 0) : 0 < (p ++ b).length := by rw [lenA]; lia
theorem T_nil (out : List (Option Str)) : T (Str.ofString "") out out := rfl
noncomputable def chrOk (p : Str) : Bool := decide (p.length = 1) && !(isAt p 0 "*") && !(isAt p 0 "?") && !(isAt p 0 "[") && decide ((cl p).getD 0 0 < 128)
theorem T_chr {p b : Str} {out fin : List (Option Str)} (hp : chrOk p = true) (h : T b (out ++ [some (escS ((cl p).getD 0 0))]) fin) : T (p ++ b) out fin := by
  simp only [chrOk, Bool.and_eq_true, decide_eq_true_eq, Bool.not_eq_true'] at hp
  obtain ⟨⟨⟨⟨h1, h2⟩, h3⟩, h4⟩, h5⟩ := hp
  have hl : p.length ≠ 0 := by lia
  have hn := T_next p b hl h
  rw [h1] at hn
  unfold T trF
  rw [if_pos (lt_0 hl), isAt_eq (getD_0 (b := b) hl), isAt_eq (getD_0 (b := b) hl), isAt_eq (getD_0 (b := b) hl), h2, h3, h4]
  simp only [Bool.false_eq_true, if_false]
  have e : (itm (p ++ b) 0).cps.getD 0 0 = (cl p).getD 0 0 := by rw [itm_eq, getD_0 hl]; rfl
  rw [e, if_pos h5]
  exact hn
theorem T_q {b : Str} {out fin : List (Option Str)} (h : T b (out ++ [some (Str.ofString "?")]) fin) : T (Str.ofString "?" ++ b) out fin := by
  have hl : (Str.ofString "?").length ≠ 0 := by decide +kernel
  have hn := T_next (Str.ofString "?") b hl h
  unfold T trF
  rw [if_pos (lt_0 hl), isAt_eq (getD_0 (b := b) hl), isAt_eq (getD_0 (b := b) hl), if_neg (by decide +kernel), if_pos (by decide +kernel)]
  exact hn
theorem T_star {b : Str} {out fin : List (Option Str)} (h : T b (if out.getLast? = some none then out else out ++ [none]) fin) : T (Str.ofString "*" ++ b) out fin := by
  have hl : (Str.ofString "*").length ≠ 0 := by decide +kernel
  have hn := T_next (Str.ofString "*") b hl h
  unfold T trF
  rw [if_pos (lt_0 hl), isAt_eq (getD_0 (b := b) hl), if_pos (by decide +kernel)]
  exact hn
noncomputable def brkOk (p : Str) (o : Str) : Bool := isAt p 0 "[" && decide (jFrom p 1 + 1 = p.length) && (stuffF p 1 (jFrom p 1) == some o)
theorem T_brk {p b o : Str} {out fin : List (Option Str)} (hp : brkOk p o = true) (h : T b (out ++ [some o]) fin) : T (p ++ b) out fin := by
  simp only [brkOk, Bool.and_eq_true, decide_eq_true_eq, beq_iff_eq] at hp
  obtain ⟨⟨h1, h2⟩, h3⟩ := hp
  have hl : p.length ≠ 0 := by lia
  have hn := T_next p b hl h
  have hb : isAt p 0 "*" = false ∧ isAt p 0 "?" = false := by
    have e : itm p 0 = Str.ofString "[" := eq_of_beq h1
    unfold isAt
    rw [e]
    decide +kernel
  have hj : jFrom p 1 < p.length := by lia
  have h1' : 1 < p.length := by
    have := jFrom_ge1 p 1
    lia
  unfold T trF
  rw [if_pos (lt_0 hl), isAt_eq (getD_0 (b := b) hl), isAt_eq (getD_0 (b := b) hl), isAt_eq (getD_0 (b := b) hl), hb.1, hb.2, h1]
  simp only [Bool.false_eq_true, if_false, if_true, Nat.zero_add]
  rw [jFrom_suf hj, if_pos (by rw [lenA]; lia), stuff_suf h1' (by lia) h3]
  dsimp only
  rw [h2]
  exact hn
theorem T_opn {b : Str} {out fin : List (Option Str)} (hj : ¬ jFrom (Str.ofString "[" ++ b) 1 < (Str.ofString "[" ++ b).length) (h : T b (out ++ [some (Str.ofString "\\[")]) fin) : T (Str.ofString "[" ++ b) out fin := by
  have hl : (Str.ofString "[").length ≠ 0 := by decide +kernel
  have hn := T_next (Str.ofString "[") b hl h
  unfold T trF
  rw [if_pos (lt_0 hl), isAt_eq (getD_0 (b := b) hl), isAt_eq (getD_0 (b := b) hl), isAt_eq (getD_0 (b := b) hl), if_neg (by decide +kernel), if_neg (by decide +kernel), if_pos (by decide +kernel), if_neg hj]
  exact hn
/-- all texts of a list, one behind the other -/
noncomputable def cat : List Str → Str
  | [] => Str.ofString ""
  | x :: r => x ++ cat r
theorem cat_app : ∀ a b : List Str, cat (a ++ b) = cat a ++ cat b
  | [], b => (nil_app _).symm
  | x :: a, b => by
    show x ++ cat (a ++ b) = (x ++ cat a) ++ cat b
    rw [cat_app a b, app_assoc]
theorem cat_join : ∀ l : List Str, Str.join (Str.ofString "") l = cat l
  | [] => by decide +kernel
  | [x] => (app_nil x).symm
  | x :: y :: r => by
    rw [join_cons2, app_nil, cat_join (y :: r)]; rfl
/-- what a piece that is no star and no open bracket gives -/
noncomputable def outP (p : Str) : Option Str :=
  if chrOk p then some (escS ((cl p).getD 0 0)) else if p == Str.ofString "?" then some (Str.ofString "?")
  else if isAt p 0 "[" && decide (jFrom p 1 + 1 = p.length) then stuffF p 1 (jFrom p 1) else none
theorem T_one {p b o : Str} {out fin : List (Option Str)} (hp : outP p = some o) (h : T b (out ++ [some o]) fin) : T (p ++ b) out fin := by
  unfold outP at hp
  split at hp
  · rename_i hc
    cases hp
    exact T_chr hc h
  · split at hp
    · rename_i hq
      cases hp
      rw [eq_of_beq hq]
      exact T_q h
    · split at hp
      · rename_i hb
        refine T_brk (o := o) ?_ h
        rw [brkOk, hb, hp, beq_self_eq_true]; rfl
      · cases hp
noncomputable def stars (m : Nat) : Str := Txt.mul (Str.ofString "*") (m : Int)
noncomputable def isStars (p : Str) : Bool := [1, 2, 3].any fun m => p == stars m
theorem T_stars1 {p b : Str} {out fin : List (Option Str)} (hp : isStars p = true) (hl : out.getLast? ≠ some none) (h : T b (out ++ [none]) fin) : T (p ++ b) out fin := by
  have e2 : (out ++ [none]).getLast? = some none := by simp
  simp only [isStars, List.any_cons, List.any_nil, Bool.or_false, Bool.or_eq_true, beq_iff_eq] at hp
  rcases hp with rfl | rfl | rfl
  · rw [show stars 1 = Str.ofString "*" by decide +kernel]
    refine T_star ?_
    rw [if_neg hl]; exact h
  · rw [show stars 2 = Str.ofString "*" ++ Str.ofString "*" by decide +kernel, app_assoc]
    refine T_star ?_
    rw [if_neg hl]
    refine T_star ?_
    rw [if_pos e2]; exact h
  · rw [show stars 3 = Str.ofString "*" ++ (Str.ofString "*" ++ Str.ofString "*") by decide +kernel, app_assoc, app_assoc]
    refine T_star ?_
    rw [if_neg hl]
    refine T_star ?_
    rw [if_pos e2]
    refine T_star ?_
    rw [if_pos e2]; exact h
theorem T_stars2 {p b : Str} {out fin : List (Option Str)} (hp : isStars p = true) (hl : out.getLast? = some none) (h : T b out fin) : T (p ++ b) out fin := by
  simp only [isStars, List.any_cons, List.any_nil, Bool.or_false, Bool.or_eq_true, beq_iff_eq] at hp
  have one : ∀ {b : Str}, T b out fin → T (Str.ofString "*" ++ b) out fin := fun h => T_star (by rw [if_pos hl]; exact h)
  rcases hp with rfl | rfl | rfl
  · rw [show stars 1 = Str.ofString "*" by decide +kernel]
    exact one h
  · rw [show stars 2 = Str.ofString "*" ++ Str.ofString "*" by decide +kernel, app_assoc]
    exact one (one h)
  · rw [show stars 3 = Str.ofString "*" ++ (Str.ofString "*" ++ Str.ofString "*") by decide +kernel, app_assoc, app_assoc]
    exact one (one (one h))
/-- pieces with their names; the flag: a star stands ahead; what the translation gives -/
inductive Pcs : Bool → List (Str × Str) → List (Option Str) → Prop
  | nil {f : Bool} : Pcs f [] []
  | one {f : Bool} {p n o : Str} {its : List (Str × Str)} {os : List (Option Str)} (h : outP p = some o) (hs : signF (some o) = some n) (hn : n ≠ Str.ofString "S" ∧ n ≠ Str.ofString "") (r : Pcs false its os) : Pcs f ((p, n) :: its) (some o :: os)
  | star1 {p : Str} {its : List (Str × Str)} {os : List (Option Str)} (h : isStars p = true) (r : Pcs true its os) : Pcs false ((p, Str.ofString "S") :: its) (none :: os)
  | star2 {p : Str} {its : List (Str × Str)} {os : List (Option Str)} (h : isStars p = true) (r : Pcs true its os) : Pcs true ((p, Str.ofString "") :: its) os
  | opn {f : Bool} {t : Str} {os : List (Option Str)} {ns : List Str} (h : ∀ out, T t out (out ++ os)) (hs : os.mapM signF = some ns) (hn : cat ns = t) : Pcs f [(t, t)] os
theorem pcs_T {f : Bool} {its : List (Str × Str)} {os : List (Option Str)} (h : Pcs f its os) : ∀ {out : List (Option Str)}, (f = true ↔ out.getLast? = some none) → T (cat (its.map (·.1))) out (out ++ os) := by
  induction h with
  | nil => intro out _; rw [List.append_nil]; exact T_nil out
  | @one f p n o its os h hs hn r ih =>
    intro out _
    refine T_one h ?_
    have := ih (out := out ++ [some o]) (by simp)
    rw [List.append_assoc] at this
    exact this
  | @star1 p its os h r ih =>
    intro out hf
    refine T_stars1 h (fun e => Bool.false_ne_true (hf.mpr e)) ?_
    have := ih (out := out ++ [none]) (by simp)
    rw [List.append_assoc] at this
    exact this
  | @star2 p its os h r ih =>
    intro out hf
    exact T_stars2 h (hf.mp rfl) (ih hf)
  | @opn f t os ns h hs hn =>
    intro out _
    show T (t ++ Str.ofString "") out _
    rw [app_nil]
    exact h out
theorem mapM_app {α β : Type} {f : α → Option β} : ∀ {a b : List α} {x y : List β}, a.mapM f = some x → b.mapM f = some y → (a ++ b).mapM f = some (x ++ y)
  | [], b, x, y, h, h' => by simp at h; subst h; exact h'
  | c :: a, b, x, y, h, h' => by
    rw [List.mapM_cons] at h
    cases hc : f c with
    | none => rw [hc] at h; cases h
    | some d =>
      rw [hc] at h
      cases ha : a.mapM f with
      | none => rw [ha] at h; cases h
      | some e =>
        rw [ha] at h
        cases h
        rw [List.cons_append, List.mapM_cons, hc, mapM_app ha h']
        rfl
theorem mapM_cons' {α β : Type} {f : α → Option β} {a : α} {l : List α} {x : β} {y : List β} (h : f a = some x) (h' : l.mapM f = some y) : (a :: l).mapM f = some (x :: y) := by
  rw [List.mapM_cons, h, h']; rfl
theorem pcs_names {f : Bool} {its : List (Str × Str)} {os : List (Option Str)} (h : Pcs f its os) : ∃ ns, os.mapM signF = some ns ∧ cat ns = cat (its.map (·.2)) := by
  induction h with
  | nil => exact ⟨[], rfl, rfl⟩
  | one h hs hn r ih =>
    obtain ⟨ns, h1, h2⟩ := ih
    exact ⟨_, mapM_cons' hs h1, by show _ ++ cat ns = _ ++ cat _; rw [h2]⟩
  | star1 h r ih =>
    obtain ⟨ns, h1, h2⟩ := ih
    exact ⟨_, mapM_cons' (x := Str.ofString "S") rfl h1, by show _ ++ cat ns = _ ++ cat _; rw [h2]⟩
  | star2 h r ih =>
    obtain ⟨ns, h1, h2⟩ := ih
    exact ⟨ns, h1, by show cat ns = Str.ofString "" ++ cat _; rw [nil_app, h2]⟩
  | opn h hs hn => exact ⟨_, hs, by show _ = _ ++ Str.ofString ""; rw [app_nil, hn]⟩
/-- the table of items -/
noncomputable def okIt (first : Bool) (q : Str × Str) : Bool :=
  !((cl q.1).contains 47) && decide (q.1.length ≠ 0) && decide (q.1.length ≤ 12) && decide (q.2.length ≤ 2) && (!first || !(isAt q.1 0 ".")) &&
  (if q.2 == Str.ofString "S" then isStars q.1 else !(q.2 == Str.ofString "") && (match outP q.1 with | none => false | some o => signF (some o) == some q.2))
/-- an item by its three remainders -/
noncomputable def itemT (k d0 e : Int) (first : Bool) : Str × Str :=
  if k = 13 then (Str.ofString "[!" ++ sgn (e) ++ Str.ofString "]", Str.ofString "N" ++ sgn (e))
  else if 10 < k then
    (if k = 11 then (Txt.mul (Str.ofString "*") (1 + (d0).fmod 3), Str.ofString "S")
     else if k = 12 then (Str.ofString "?", Str.ofString "Q")
     else if k = 14 then (Str.ofString "[b-a]", Str.ofString "0")
     else if k = 15 then (Str.ofString "[!b-a]", Str.ofString "A")
     else (Str.ofString "[a-]", Str.ofString "P"))
  else
    if sgn (k) == Str.ofString "!" then (sgn (k), sgn (k))
    else
      let d := if d0 = 0 ∧ (Txt.contains (Str.ofString "*?[") (sgn (k)) = true ∨ (first = true ∧ (sgn (k) == Str.ofString ".") = true)) then 1 else d0
      if d = 0 then (sgn (k), sgn (k))
      else if d = 1 ∨ (d = 2 ∧ (sgn (k) == Str.ofString "]") = true) then (Str.ofString "[" ++ sgn (k) ++ Str.ofString "]", sgn (k))
      else if d = 2 then (Str.ofString "[" ++ sgn (k) ++ Str.ofString "-" ++ sgn (k) ++ Str.ofString "b-a]", sgn (k))
      else (Str.ofString "[" ++ sgn (k) ++ Str.ofString "b-a]", sgn (k))
theorem itemF_T (x : Int) (first : Bool) : itemF x first = itemT (x.fmod 20) ((x.fdiv 20).fmod 4) ((x.fdiv 20).fmod 11) first := rfl
theorem ok13 : ((List.range 11).all fun e => okIt true (itemT 13 0 (e : Nat) true) && okIt false (itemT 13 0 (e : Nat) false)) = true := by decide +kernel
theorem ok16 : ((List.range 17).all fun k => (List.range 4).all fun d => k == 13 || (okIt true (itemT (k : Nat) (d : Nat) 0 true) && okIt false (itemT (k : Nat) (d : Nat) 0 false))) = true := by decide +kernel
theorem item_ok (x : Int) (first : Bool) (h : x.fmod 20 < 17) : okIt first (itemF x first) = true := by
  rw [itemF_T]
  have k0 : 0 ≤ x.fmod 20 := Int.fmod_nonneg_of_pos _ (by decide)
  have d0 : 0 ≤ (x.fdiv 20).fmod 4 := Int.fmod_nonneg_of_pos _ (by decide)
  have d1 : (x.fdiv 20).fmod 4 < 4 := Int.fmod_lt_of_pos _ (by decide)
  have e0 : 0 ≤ (x.fdiv 20).fmod 11 := Int.fmod_nonneg_of_pos _ (by decide)
  have e1 : (x.fdiv 20).fmod 11 < 11 := Int.fmod_lt_of_pos _ (by decide)
  generalize x.fmod 20 = k at *
  generalize (x.fdiv 20).fmod 4 = d at *
  generalize (x.fdiv 20).fmod 11 = e at *
  obtain ⟨k, rfl⟩ := Int.eq_ofNat_of_zero_le k0
  obtain ⟨d, rfl⟩ := Int.eq_ofNat_of_zero_le d0
  obtain ⟨e, rfl⟩ := Int.eq_ofNat_of_zero_le e0
  by_cases hk : k = 13
  · subst hk
    have h9 := List.all_eq_true.mp ok13 e (List.mem_range.mpr (by lia))
    rw [Bool.and_eq_true] at h9
    have e9 : itemT ((13 : Nat) : Int) (d : Int) (e : Int) first = itemT 13 0 (e : Int) first := by
      unfold itemT
      rw [if_pos (show ((13 : Nat) : Int) = 13 from rfl), if_pos (show (13 : Int) = 13 from rfl)]
    rw [e9]
    cases first
    · exact h9.2
    · exact h9.1
  · have h9 := List.all_eq_true.mp ok16 k (List.mem_range.mpr (by lia))
    have h8 := List.all_eq_true.mp h9 d (List.mem_range.mpr (by lia))
    rw [Bool.or_eq_true, beq_iff_eq, Bool.and_eq_true] at h8
    have h7 := h8.resolve_left hk
    have e9 : itemT (k : Int) (d : Int) (e : Int) first = itemT (k : Int) (d : Int) 0 first := by
      unfold itemT
      have : ¬ ((k : Int) = 13) := by lia
      rw [if_neg this, if_neg this]
    rw [e9]
    cases first
    · exact h7.2
    · exact h7.1
end

section
open PySem PySem.W PyProof.Rows PySem.Calls PySem.Builtin PySem.Builtin.Str
/-! rows: what they are and how they read -/
noncomputable def isS (q : Str × Str) : Bool := q.2 == Str.ofString "S" || q.2 == Str.ofString ""
noncomputable def pcB (f : Bool) (q : Str × Str) : Bool :=
  if q.2 == Str.ofString "S" then !f && isStars q.1
  else if q.2 == Str.ofString "" then f && isStars q.1
  else (match outP q.1 with | none => false | some o => signF (some o) == some q.2)
noncomputable def clB : Bool → Row → Bool
  | _, [] => true
  | f, q :: its => pcB f q && clB (isS q) its
noncomputable def flB : Bool → Row → Bool
  | f, [] => f
  | _, q :: its => flB (isS q) its
theorem clB_app : ∀ (a : Row) (f : Bool) (b : Row), clB f (a ++ b) = (clB f a && clB (flB f a) b)
  | [], f, b => by simp [clB, flB]
  | q :: a, f, b => by
    show (pcB f q && clB (isS q) (a ++ b)) = _
    rw [clB_app a]
    simp [clB, flB, Bool.and_assoc]
theorem flB_snoc : ∀ (a : Row) (f : Bool) (q : Str × Str), flB f (a ++ [q]) = isS q
  | [], f, q => rfl
  | x :: a, f, q => flB_snoc a (isS x) q
theorem isS_any (q : Str × Str) : ([Str.ofString "S", Str.ofString ""].any (· == q.2)) = isS q := by
  simp only [List.any_cons, List.any_nil, Bool.or_false, isS]
  rw [Bool.eq_iff_iff]
  simp only [Bool.or_eq_true, beq_iff_eq]
  constructor <;> (rintro (h | h) <;> simp [h])
theorem itemR_eq (x : Int) (r : Row) : itemR x r = if ((itemF x r.isEmpty).2 == Str.ofString "S") = true ∧ flB false r = true then ((itemF x r.isEmpty).1, Str.ofString "") else itemF x r.isEmpty := by
  unfold itemR
  rcases List.eq_nil_or_concat r with rfl | ⟨b, q, rfl⟩
  · rfl
  · simp only [List.concat_eq_append, List.getLast?_append, List.getLast?_singleton, Option.some_or]
    rw [flB_snoc, isS_any q]
theorem pcs_app {os : List (Option Str)} {b : Row} : ∀ {a : Row} {f : Bool}, clB f a = true → Pcs (flB f a) b os → ∃ os', Pcs f (a ++ b) os' ∧ os'.length ≤ a.length + os.length
  | [], f, _, h => ⟨os, h, by simp⟩
  | (p, n) :: a, f, hc, h => by
    have hc' : (pcB f (p, n) && clB (isS (p, n)) a) = true := hc
    rw [Bool.and_eq_true] at hc'
    obtain ⟨h1, h2⟩ := hc'
    obtain ⟨os', ho, hl⟩ := pcs_app (b := b) h2 h
    unfold pcB at h1
    by_cases hS : n = Str.ofString "S"
    · subst hS
      simp only [beq_self_eq_true, if_true, Bool.and_eq_true, Bool.not_eq_true'] at h1
      obtain ⟨rfl, h1⟩ := h1
      have e : isS (p, Str.ofString "S") = true := by simp [isS]
      rw [e] at ho
      exact ⟨_, .star1 h1 ho, by simp; lia⟩
    · by_cases hE : n = Str.ofString ""
      · subst hE
        have e0 : (Str.ofString "" == Str.ofString "S") = false := by decide +kernel
        simp only [e0, Bool.false_eq_true, if_false, beq_self_eq_true, if_true, Bool.and_eq_true] at h1
        obtain ⟨rfl, h1⟩ := h1
        have e : isS (p, Str.ofString "") = true := by simp [isS]
        rw [e] at ho
        exact ⟨_, .star2 h1 ho, by simp; lia⟩
      · have e1 : (n == Str.ofString "S") = false := beq_eq_false_iff_ne.mpr hS
        have e2 : (n == Str.ofString "") = false := beq_eq_false_iff_ne.mpr hE
        simp only [e1, e2, Bool.false_eq_true, if_false] at h1
        have e : isS (p, n) = false := by simp [isS, e1, e2]
        rw [e] at ho
        cases ho1 : outP p with
        | none => rw [ho1] at h1; cases h1
        | some o =>
          rw [ho1] at h1
          exact ⟨_, .one ho1 (eq_of_beq h1) ⟨hS, hE⟩ ho, by simp; lia⟩
/-- a row's texts -/
noncomputable def txB (q : Str × Str) : Bool := !((cl q.1).contains 47) && decide (q.1.length ≠ 0) && decide (q.1.length ≤ 12) && decide (q.2.length ≤ 2)
noncomputable def hdB : Row → Bool
  | [] => true
  | q :: _ => !(isAt q.1 0 ".")
/-- what holds of a row -/
structure RowI (r : Row) : Prop where
  cl : clB false r = true
  tx : r.all txB = true
  hd : hdB r = true
theorem hdB_snoc {r : Row} {q : Str × Str} (h : hdB r = true) (hq : r = [] → isAt q.1 0 "." = false) : hdB (r ++ [q]) = true := by
  cases r with
  | nil => simp [hdB, hq rfl]
  | cons a r => exact h
theorem rowI_snoc {r : Row} {x : Int} (h : RowI r) (hx : x.fmod 20 < 17) : RowI (r ++ [itemR x r]) := by
  have hi := item_ok x r.isEmpty hx
  rw [itemR_eq]
  generalize itemF x r.isEmpty = q at hi ⊢
  obtain ⟨p, n⟩ := q
  simp only [okIt, Bool.and_eq_true] at hi
  obtain ⟨⟨⟨⟨⟨h1, h2⟩, h3⟩, h4⟩, h5⟩, h6⟩ := hi
  have hd5 : r = [] → isAt p 0 "." = false := by
    intro e; subst e
    simpa using h5
  by_cases hS : n = Str.ofString "S"
  · subst hS
    simp only [beq_self_eq_true, if_true] at h6
    simp only [beq_self_eq_true, true_and]
    cases hf : flB false r with
    | true =>
      simp only [if_true]
      refine ⟨?_, ?_, hdB_snoc h.hd hd5⟩
      · rw [clB_app, h.cl, hf]
        simp [clB, pcB, h6, show (Str.ofString "" == Str.ofString "S") = false by decide +kernel]
      · rw [List.all_append, h.tx]
        simp only [List.all_cons, List.all_nil, Bool.and_true, Bool.true_and, txB, Bool.and_eq_true]
        exact ⟨⟨⟨h1, h2⟩, h3⟩, by show decide ((Str.ofString "").length ≤ 2) = true; decide +kernel⟩
    | false =>
      simp only [Bool.false_eq_true, if_false]
      refine ⟨?_, ?_, hdB_snoc h.hd hd5⟩
      · rw [clB_app, h.cl, hf]
        simp [clB, pcB, h6]
      · rw [List.all_append, h.tx]
        simp only [List.all_cons, List.all_nil, Bool.and_true, Bool.true_and, txB, Bool.and_eq_true]
        exact ⟨⟨⟨h1, h2⟩, h3⟩, h4⟩
  · have e1 : (n == Str.ofString "S") = false := beq_eq_false_iff_ne.mpr hS
    simp only [e1, Bool.false_eq_true, if_false, Bool.and_eq_true, Bool.not_eq_true'] at h6
    simp only [e1, Bool.false_eq_true, false_and, if_false]
    refine ⟨?_, ?_, hdB_snoc h.hd hd5⟩
    · rw [clB_app, h.cl]
      simp only [clB, pcB, e1, Bool.false_eq_true, if_false, h6.1, Bool.and_true, Bool.true_and]
      exact h6.2
    · rw [List.all_append, h.tx]
      simp only [List.all_cons, List.all_nil, Bool.and_true, Bool.true_and, txB, Bool.and_eq_true]
      exact ⟨⟨⟨h1, h2⟩, h3⟩, h4⟩
theorem rowI_nil : RowI [] := ⟨rfl, rfl, rfl⟩
theorem rowI_dflt : RowI [(Str.ofString "[.]", Str.ofString "."), (Str.ofString ".", Str.ofString ".")] := ⟨by decide +kernel, by decide +kernel, by decide +kernel⟩
structure StI (n : Nat) (st : List Row × Row) : Prop where
  rows : ∀ r ∈ st.1, RowI r ∧ r ≠ [] ∧ r.length ≤ n
  last : RowI st.2
  ll : st.2.length ≤ n
  cnt : st.1.length + (if st.2.isEmpty then 0 else 1) ≤ n
theorem st_fold : ∀ (xs : List Int) (st : List Row × Row) (n : Nat), StI n st → StI (n + xs.length) (xs.foldl rowStep st)
  | [], st, n, h => h
  | x :: xs, st, n, h => by
    have e : n + (x :: xs).length = (n + 1) + xs.length := by rw [List.length_cons]; lia
    rw [e, List.foldl_cons]
    refine st_fold xs _ _ ?_
    have hr1 : ∀ r ∈ st.1, RowI r ∧ r ≠ [] ∧ r.length ≤ n + 1 := fun r hr => ⟨(h.rows r hr).1, (h.rows r hr).2.1, Nat.le_succ_of_le (h.rows r hr).2.2⟩
    unfold rowStep
    split
    · rename_i hx
      refine ⟨hr1, rowI_snoc h.last hx, ?_, ?_⟩
      · have := h.ll
        show (st.2 ++ [_]).length ≤ _
        rw [List.length_append, List.length_singleton]; lia
      · have := h.cnt
        have e2 : (st.2 ++ [itemR x st.2]).isEmpty = false := by simp
        show st.1.length + (if (st.2 ++ [itemR x st.2]).isEmpty then 0 else 1) ≤ _
        rw [e2]
        simp only [Bool.false_eq_true, if_false]
        split at this <;> lia
    · split
      · rename_i hx he
        exact ⟨hr1, h.last, Nat.le_succ_of_le h.ll, Nat.le_succ_of_le h.cnt⟩
      · rename_i hx he
        have hc := h.cnt
        rw [if_neg he] at hc
        refine ⟨fun r hr => ?_, rowI_nil, Nat.zero_le _, ?_⟩
        · rcases List.mem_append.mp hr with hr | hr
          · exact hr1 r hr
          · rw [List.mem_singleton.mp hr]
            exact ⟨h.last, fun e => he (by rw [e]; rfl), Nat.le_succ_of_le h.ll⟩
        · show (st.1 ++ [st.2]).length + 0 ≤ _
          rw [List.length_append, List.length_singleton]; lia
structure RowsI (rows : List Row) : Prop where
  all : ∀ r ∈ rows, RowI r ∧ r ≠ [] ∧ r.length ≤ 12
  len : rows.length ≤ 12
  ne : rows ≠ []
theorem rowsF_I {xs : List Int} (h : xs.length ≤ 12) : RowsI (rowsF xs) := by
  have hs := st_fold xs ([], []) 0 ⟨fun r hr => (nomatch hr), rowI_nil, Nat.le_refl _, Nat.le_refl _⟩
  unfold rowsF
  generalize xs.foldl rowStep ([], []) = st at hs
  have hr : ∀ r ∈ st.1, RowI r ∧ r ≠ [] ∧ r.length ≤ 12 := fun r hr => ⟨(hs.rows r hr).1, (hs.rows r hr).2.1, Nat.le_trans (hs.rows r hr).2.2 (by lia)⟩
  have hc := hs.cnt
  dsimp only
  split
  · rename_i he
    rw [if_pos he] at hc
    split
    · refine ⟨fun r hr => ?_, by decide +kernel, by decide +kernel⟩
      rw [List.mem_singleton.mp hr]
      exact ⟨rowI_dflt, by simp, by simp⟩
    · rename_i he1
      exact ⟨hr, by lia, fun e => he1 (by rw [e]; rfl)⟩
  · rename_i he
    rw [if_neg he] at hc
    refine ⟨fun r hr' => ?_, by rw [List.length_append, List.length_singleton]; lia, by simp⟩
    rcases List.mem_append.mp hr' with h' | h'
    · exact hr r h'
    · rw [List.mem_singleton.mp h']
      exact ⟨hs.last, fun e => he (by rw [e]; rfl), Nat.le_trans hs.ll (by lia)⟩
end

section
open PySem PySem.W PyProof.Rows PySem.Calls PySem.Builtin PySem.Builtin.Str
noncomputable def frontTab : List (Str × Str × List Str) :=
  [(Str.ofString "..", Str.ofString "", [Str.ofString ".."]), (Str.ofString "", Str.ofString "", []), (Str.ofString "/", Str.ofString "/", []), (Str.ofString "//", Str.ofString "//", []), (Str.ofString "///", Str.ofString "/", []), (Str.ofString "../..", Str.ofString "", [Str.ofString "..", Str.ofString ".."])]
noncomputable def tailTab : List Str := [Str.ofString "", Str.ofString "[", Str.ofString "[!", Str.ofString "[a"]
/-- the detour ahead of a row -/
noncomputable def detF (ns : List Int) (k : Nat) : Str := detourTab.getD ((((((ns.drop (k + 1)).take 1).map fun x => x.fdiv 80).sum + (k : Int)).fmod 7).toNat) (Str.ofString "")
noncomputable def partsX (ns : List Int) (rows : List Row) : Nat → List Str
  | 0 => []
  | k + 1 => partsX ns rows k ++ [detF ns k, Txt.join (Str.ofString "") ((rows.getD k []).map (·.1))]
noncomputable def pats (rows : List Row) : List Str := rows.map fun r => Txt.join (Str.ofString "") (r.map (·.1))
noncomputable def sigs (rows : List Row) : List Str := rows.map fun r => Txt.join (Str.ofString "") (r.map (·.2))
noncomputable def RowsB (rows : List Row) : Prop := rows.length ≤ 13 ∧ ∀ r ∈ rows, r.length ≤ 14 ∧ ∀ q ∈ r, q.1.length ≤ 12 ∧ q.2.length ≤ 12
/-- what the plain law must give -/
structure LawP (f r : Str) (us ps : List Str) (rows : List Row) : Prop where
  jl : f.length + (ps.map (·.length)).sum + ps.length ≤ 100000
  pl : (ps.foldl pjStep f).length ≤ 100000
  np : npath (ps.foldl pjStep f) = r ++ Txt.join (Str.ofString "/") (us ++ pats rows)
  tl : TailsOf (r ++ Txt.join (Str.ofString "/") (us ++ pats rows)) (r :: (us ++ pats rows))
  ul : us.length ≤ 2
  sl : (r ++ Txt.join (Str.ofString "/") (us ++ pats rows)).length ≤ 100000
  sj : ((us ++ sigs rows).map (·.length)).sum + (us ++ sigs rows).length ≤ 9000
  rrl : r.length ≤ 2
  rd : ∀ i, i < rows.length → ((pats rows).getD i (Str.ofString "")).length ≤ 100000 ∧ ∃ fin, trF ((pats rows).getD i (Str.ofString "")) (((pats rows).getD i (Str.ofString "")).length + 1) 0 [] = some fin ∧ readF fin = some ((sigs rows).getD i (Str.ofString ""))
  rs : ∃ fin, trF (r ++ Txt.join (Str.ofString "/") (us ++ pats rows)) ((r ++ Txt.join (Str.ofString "/") (us ++ pats rows)).length + 1) 0 [] = some fin ∧ readF fin = some (r ++ Txt.join (Str.ofString "/") (us ++ sigs rows))
/-! the open bracket at the end -/
theorem opn_T {t : Str} (ht : t ∈ tailTab) : ∃ os ns, (∀ out, T t out (out ++ os)) ∧ os.mapM signF = some ns ∧ cat ns = t ∧ os.length ≤ 2 := by
  simp only [tailTab, List.mem_cons, List.not_mem_nil, or_false] at ht
  have e1 (s : String) (h : T (Str.ofString s) = T (Str.ofString s)) : True := trivial
  rcases ht with rfl | rfl | rfl | rfl
  · exact ⟨[], [], fun out => by rw [List.append_nil]; exact T_nil out, rfl, rfl, by simp⟩
  · refine ⟨[some (Str.ofString "\\[")], [Str.ofString "["], fun out => ?_, by decide +kernel, by decide +kernel, by simp⟩
    have := T_opn (b := Str.ofString "") (out := out) (by decide +kernel) (T_nil _)
    rw [app_nil] at this
    exact this
  · refine ⟨[some (Str.ofString "\\["), some (Str.ofString "!")], [Str.ofString "[", Str.ofString "!"], fun out => ?_, by decide +kernel, by decide +kernel, by simp⟩
    have h1 := T_chr (p := Str.ofString "!") (b := Str.ofString "") (out := out ++ [some (Str.ofString "\\[")]) (by decide +kernel) (T_nil _)
    rw [app_nil, show escS ((cl (Str.ofString "!")).getD 0 0) = Str.ofString "!" by decide +kernel, List.append_assoc] at h1
    have := T_opn (b := Str.ofString "!") (out := out) (by decide +kernel) h1
    rw [show Str.ofString "[" ++ Str.ofString "!" = Str.ofString "[!" by decide +kernel] at this
    exact this
  · refine ⟨[some (Str.ofString "\\["), some (Str.ofString "a")], [Str.ofString "[", Str.ofString "a"], fun out => ?_, by decide +kernel, by decide +kernel, by simp⟩
    have h1 := T_chr (p := Str.ofString "a") (b := Str.ofString "") (out := out ++ [some (Str.ofString "\\[")]) (by decide +kernel) (T_nil _)
    rw [app_nil, show escS ((cl (Str.ofString "a")).getD 0 0) = Str.ofString "a" by decide +kernel, List.append_assoc] at h1
    have := T_opn (b := Str.ofString "a") (out := out) (by decide +kernel) h1
    rw [show Str.ofString "[" ++ Str.ofString "a" = Str.ofString "[a" by decide +kernel] at this
    exact this
theorem tail_facts {t : Str} (ht : t ∈ tailTab) : 47 ∉ cl t ∧ t.length ≤ 2 := by
  have h : (tailTab.all fun t => !((cl t).contains 47) && decide (t.length ≤ 2)) = true := by decide +kernel
  have := List.all_eq_true.mp h t ht
  rw [Bool.and_eq_true, decide_eq_true_eq] at this
  exact ⟨by simpa using this.1, this.2⟩
theorem pcs_tail {a : Row} {t : Str} (ha : clB false a = true) (ht : t ∈ tailTab) : ∃ os, Pcs false (a ++ [(t, t)]) os ∧ os.length ≤ a.length + 2 := by
  obtain ⟨os, ns, h1, h2, h3, h4⟩ := opn_T ht
  obtain ⟨os', h5, h6⟩ := pcs_app ha (.opn h1 h2 h3)
  exact ⟨os', h5, by lia⟩
theorem pcs_row {a : Row} (ha : clB false a = true) : ∃ os, Pcs false a os ∧ os.length ≤ a.length + 2 := by
  obtain ⟨os', h5, h6⟩ := pcs_app ha (.nil)
  rw [List.append_nil] at h5
  exact ⟨os', h5, by simp at h6; lia⟩
/-! reading -/
theorem cat_len : ∀ l : List Str, (cat l).length = (l.map (·.length)).sum
  | [] => by decide +kernel
  | x :: l => by
    show (x ++ cat l).length = _
    rw [len_app, cat_len l]; simp
theorem tjoin_nil (l : List Str) : Txt.join (Str.ofString "") l = cat l := by rw [tjoin, cat_join]
theorem read_pcs {its : Row} {os : List (Option Str)} (h : Pcs false its os) (h1 : os.length ≤ 10000) (h2 : (cat (its.map (·.2))).length ≤ 10000) :
    trF (cat (its.map (·.1))) ((cat (its.map (·.1))).length + 1) 0 [] = some os ∧ readF os = some (cat (its.map (·.2))) := by
  refine ⟨by have := pcs_T h (out := []) (by simp); rw [List.nil_append] at this; exact this, ?_⟩
  obtain ⟨ns, e1, e2⟩ := pcs_names h
  have hl := (mapM_at e1).1
  unfold readF
  rw [e1]
  dsimp only
  rw [if_pos, tjoin_nil, e2]
  rw [← cat_len, e2]
  lia
/-! rows with a slash between -/
noncomputable def slR : Str × Str := (Str.ofString "/", Str.ofString "/")
noncomputable def sepR : List Row → Row
  | [] => []
  | [r] => r
  | r :: r2 :: rs => (r ++ [slR]) ++ sepR (r2 :: rs)
theorem slR_ok (f : Bool) : pcB f slR = true := by cases f <;> decide +kernel
theorem slR_S : isS slR = false := by decide +kernel
theorem sepR_map (g : Str × Str → Str) (hg : g slR = Str.ofString "/") : ∀ rs : List Row, cat ((sepR rs).map g) = Str.join (Str.ofString "/") (rs.map fun r => cat (r.map g))
  | [] => by rfl
  | [r] => rfl
  | r :: r2 :: rs => by
    have ih := sepR_map g hg (r2 :: rs)
    show cat (((r ++ [slR]) ++ sepR (r2 :: rs)).map g) = _
    rw [List.map_append, List.map_append, cat_app, cat_app, ih]
    simp only [List.map_cons, List.map_nil, hg]
    rw [join_cons2]
    show _ ++ (Str.ofString "/" ++ Str.ofString "") ++ _ = _
    rw [app_nil]
theorem sepR_pcs {r : Row} {os : List (Option Str)} (h : Pcs false r os) : ∀ {a : List Row}, (∀ q ∈ a, clB false q = true) → ∃ os', Pcs false (sepR (a ++ [r])) os' ∧ os'.length ≤ ((a.map (·.length)).sum + a.length) + os.length
  | [], _ => ⟨os, h, by simp⟩
  | [q], ha => by
    have hc : clB false (q ++ [slR]) = true := by
      rw [clB_app, ha q (.head _)]
      simp [clB, slR_ok]
    obtain ⟨os', h1, h2⟩ := pcs_app (b := r) (os := os) hc (by rw [flB_snoc, slR_S]; exact h)
    exact ⟨os', h1, by simp at h2 ⊢; lia⟩
  | q :: q2 :: a, ha => by
    obtain ⟨os1, h3, h4⟩ := sepR_pcs h (a := q2 :: a) fun z hz => ha z (.tail _ hz)
    have hc : clB false (q ++ [slR]) = true := by
      rw [clB_app, ha q (.head _)]
      simp [clB, slR_ok]
    obtain ⟨os', h1, h2⟩ := pcs_app (b := sepR (q2 :: a ++ [r])) (os := os1) hc (by rw [flB_snoc, slR_S]; exact h3)
    exact ⟨os', h1, by simp at h2 h4 ⊢; lia⟩
/-! lengths -/
theorem jn_len (s : Str) : ∀ l : List Str, (Str.join s l).length ≤ (l.map (·.length)).sum + s.length * l.length
  | [] => by show (Str.ofString "").length ≤ _; exact Nat.le_trans (by decide +kernel) (Nat.zero_le _)
  | [x] => by show x.length ≤ _; simp
  | x :: y :: l => by
    have ih := jn_len s (y :: l)
    rw [join_cons2, len_app, len_app]
    simp only [List.map_cons, List.sum_cons, List.length_cons, Nat.mul_add, Nat.mul_one] at ih ⊢
    lia
theorem sumB {B : Nat} : ∀ {l : List Str}, (∀ y ∈ l, y.length ≤ B) → (l.map (·.length)).sum ≤ l.length * B
  | [], _ => Nat.zero_le _
  | y :: l, h => by
    have h1 := h y (.head _)
    have h2 := sumB (l := l) fun z hz => h z (.tail _ hz)
    rw [List.map_cons, List.sum_cons, List.length_cons, Nat.add_mul]
    lia
theorem pjf_len : ∀ (l : List Str) (f : Str), (l.foldl pjStep f).length ≤ f.length + (l.map (·.length)).sum + l.length
  | [], f => by simp
  | b :: l, f => by
    have h1 := pjStep_len f b
    have h2 := pjf_len l (pjStep f b)
    rw [List.foldl_cons]
    simp only [List.map_cons, List.sum_cons, List.length_cons]
    lia
/-! the rows with the last one's tail -/
structure LastI (rows : List Row) : Prop where
  len : rows.length ≤ 12
  ne : rows ≠ []
  tx : ∀ r ∈ rows, r.length ≤ 13 ∧ ∀ q ∈ r, 47 ∉ cl q.1 ∧ q.1.length ≤ 12 ∧ q.2.length ≤ 2
  pt : ∀ r ∈ rows, ∃ q its, r = q :: its ∧ q.1.length ≠ 0 ∧ isAt q.1 0 "." = false
  sp : ∃ a r os, rows = a ++ [r] ∧ (∀ q ∈ a, clB false q = true) ∧ Pcs false r os ∧ os.length ≤ 15
theorem row_tx {r : Row} (h : RowI r) : ∀ q ∈ r, 47 ∉ cl q.1 ∧ q.1.length ≠ 0 ∧ q.1.length ≤ 12 ∧ q.2.length ≤ 2 := by
  intro q hq
  have := List.all_eq_true.mp h.tx q hq
  simp only [txB, Bool.and_eq_true, decide_eq_true_eq, Bool.not_eq_true'] at this
  exact ⟨by simpa using this.1.1.1, this.1.1.2, this.1.2, this.2⟩
theorem row_pt {r b : Row} (h : RowI r) (hn : r ≠ []) : ∃ q its, r ++ b = q :: its ∧ q.1.length ≠ 0 ∧ isAt q.1 0 "." = false := by
  cases r with
  | nil => exact absurd rfl hn
  | cons q its => exact ⟨q, its ++ b, rfl, (row_tx h q (.head _)).2.1, by have := h.hd; simpa [hdB] using this⟩
theorem lastI_of {dn : List Row} {last : Row} {t : Str} (h : RowsI (dn ++ [last])) (ht : t ∈ tailTab) : LastI (dn ++ [last ++ [(t, t)]]) := by
  have hd : ∀ r ∈ dn, RowI r ∧ r ≠ [] ∧ r.length ≤ 12 := fun r hr => h.all r (List.mem_append.mpr (.inl hr))
  have hl := h.all last (by simp)
  have tf := tail_facts ht
  obtain ⟨os, ho, hol⟩ := pcs_tail hl.1.cl ht
  refine ⟨by have := h.len; simpa using this, by simp, fun r hr => ?_, fun r hr => ?_, dn, _, os, rfl, fun q hq => (hd q hq).1.cl, ho, by have := hl.2.2; lia⟩
  · rcases List.mem_append.mp hr with hr | hr
    · exact ⟨by have := (hd r hr).2.2; lia, fun q hq => by have := row_tx (hd r hr).1 q hq; exact ⟨this.1, this.2.2.1, this.2.2.2⟩⟩
    · rw [List.mem_singleton.mp hr]
      refine ⟨by have := hl.2.2; rw [List.length_append, List.length_singleton]; lia, fun q hq => ?_⟩
      rcases List.mem_append.mp hq with hq | hq
      · have := row_tx hl.1 q hq; exact ⟨this.1, this.2.2.1, this.2.2.2⟩
      · rw [List.mem_singleton.mp hq]
        exact ⟨tf.1, by have := tf.2; dsimp only; lia, tf.2⟩
  · rcases List.mem_append.mp hr with hr | hr
    · have := row_pt (b := []) (hd r hr).1 (hd r hr).2.1
      rw [List.append_nil] at this
      exact this
    · rw [List.mem_singleton.mp hr]
      exact row_pt hl.1 hl.2.1
theorem lastI_B {rows : List Row} (h : LastI rows) : RowsB rows :=
  ⟨by have := h.len; lia, fun r hr => ⟨by have := (h.tx r hr).1; lia, fun q hq => ⟨((h.tx r hr).2 q hq).2.1, by have := ((h.tx r hr).2 q hq).2.2; lia⟩⟩⟩
theorem cat_mem {c : Nat} : ∀ {l : List Str}, (∀ p ∈ l, c ∉ cl p) → c ∉ cl (cat l)
  | [], _ => by show c ∉ cl (Str.ofString ""); rw [cl_nil]; simp
  | x :: l, h => by
    show c ∉ cl (x ++ cat l)
    rw [cl_app, List.mem_append]
    rintro (h1 | h1)
    · exact h x (.head _) h1
    · exact cat_mem (fun p hp => h p (.tail _ hp)) h1
theorem dot_head {x : Str} (h : isAt x 0 "." = false) : (cl x).getD 0 0 ≠ 46 := by
  intro e
  rw [isAt, itm_eq, e] at h
  revert h
  decide +kernel
theorem part_row {rows : List Row} (h : LastI rows) {r : Row} (hr : r ∈ rows) : part (cat (r.map (·.1))) := by
  obtain ⟨q, its, rfl, h1, h2⟩ := h.pt r hr
  have hx := (h.tx _ hr).2
  have hc : cat ((q :: its).map (·.1)) = q.1 ++ cat (its.map (·.1)) := rfl
  have h0 := dot_head h2
  have hg : (cl (q.1 ++ cat (its.map (·.1)))).getD 0 0 = (cl q.1).getD 0 0 := getD_suf (by lia)
  refine ⟨⟨?_, ?_, ?_⟩, cat_mem fun p hp => ?_⟩
  · rw [hc, len_app]; lia
  · intro e
    rw [hc] at e
    rw [e] at hg
    rw [← hg] at h0
    exact h0 (by decide +kernel)
  · intro e
    rw [hc] at e
    rw [e] at hg
    rw [← hg] at h0
    exact h0 (by decide +kernel)
  · obtain ⟨z, hz, rfl⟩ := List.mem_map.mp hp
    exact (hx z hz).1
theorem detF_mem (ns : List Int) (k : Nat) : detF ns k ∈ detourTab := by
  unfold detF
  have h0 : 0 ≤ (((((ns.drop (k + 1)).take 1).map fun x => x.fdiv 80).sum + (k : Int)).fmod 7) := Int.fmod_nonneg_of_pos _ (by decide)
  have h1 : (((((ns.drop (k + 1)).take 1).map fun x => x.fdiv 80).sum + (k : Int)).fmod 7) < 7 := Int.fmod_lt_of_pos _ (by decide)
  generalize (((((ns.drop (k + 1)).take 1).map fun x => x.fdiv 80).sum + (k : Int)).fmod 7) = z at *
  have hz : z.toNat < detourTab.length := by show z.toNat < 7; lia
  rw [List.getD, List.getElem?_eq_getElem hz]
  exact List.getElem_mem hz
theorem partsX_R (ns : List Int) (rows : List Row) (d : Str) : ∀ n, partsX ns rows n = ((List.range n).map fun k => (detF ns k, Txt.join (Str.ofString "") ((rows.getD k []).map (·.1)))).flatMap (fun p => [p.1, p.2])
  | 0 => rfl
  | n + 1 => by
    show partsX ns rows n ++ _ = _
    rw [partsX_R ns rows d n, List.range_succ, List.map_append, List.flatMap_append]
    rfl
theorem map_getD {β : Type} (g : Row → β) (rows : List Row) : (List.range rows.length).map (fun k => g (rows.getD k [])) = rows.map g := by
  refine List.ext_getElem (by simp) fun i h1 h2 => ?_
  have : i < rows.length := by simpa using h1
  simp [List.getD, this]
theorem pats_cat (rows : List Row) : pats rows = rows.map fun r => cat (r.map (·.1)) := by
  unfold pats; congr 1; funext r; exact tjoin_nil _
theorem sigs_cat (rows : List Row) : sigs rows = rows.map fun r => cat (r.map (·.2)) := by
  unfold sigs; congr 1; funext r; exact tjoin_nil _
theorem row_len {rows : List Row} (h : LastI rows) {r : Row} (hr : r ∈ rows) : (cat (r.map (·.1))).length ≤ 156 ∧ (cat (r.map (·.2))).length ≤ 26 := by
  obtain ⟨h1, h2⟩ := h.tx r hr
  rw [cat_len, cat_len]
  have a := sumB (B := 12) (l := r.map (·.1)) fun y hy => by obtain ⟨q, hq, rfl⟩ := List.mem_map.mp hy; exact (h2 q hq).2.1
  have b := sumB (B := 2) (l := r.map (·.2)) fun y hy => by obtain ⟨q, hq, rfl⟩ := List.mem_map.mp hy; exact (h2 q hq).2.2
  rw [List.length_map] at a b
  lia
/-- the fronts' rows -/
noncomputable def chR (x : Str) : Row := (cl x).map fun c => (⟨#[c]⟩, ⟨#[c]⟩)
theorem chR_cat1 (x : Str) : cat ((chR x).map (·.1)) = x := by
  refine cl_ext ?_
  unfold chR
  rw [List.map_map]
  generalize cl x = l
  induction l with
  | nil => exact cl_nil
  | cons c l ih =>
    show cl (_ ++ cat _) = _
    rw [cl_app, ih]; rfl
theorem chR_cat2 (x : Str) : cat ((chR x).map (·.2)) = x := by
  have := chR_cat1 x
  unfold chR at this ⊢
  rw [List.map_map] at this ⊢
  exact this
theorem front_facts {f r : Str} {us : List Str} (h : (f, r, us) ∈ frontTab) : (r = Str.ofString "" ∨ r = Str.ofString "/" ∨ r = Str.ofString "//") ∧ us.length ≤ 2 ∧ f.length ≤ 5 ∧ (∀ u ∈ us, u = Str.ofString "..") := by
  have e : (frontTab.all fun q => (q.2.1 == Str.ofString "" || q.2.1 == Str.ofString "/" || q.2.1 == Str.ofString "//") && decide (q.2.2.length ≤ 2) && decide (q.1.length ≤ 5) && q.2.2.all (· == Str.ofString "..")) = true := by decide +kernel
  have := List.all_eq_true.mp e _ h
  simp only [Bool.and_eq_true, Bool.or_eq_true, beq_iff_eq, decide_eq_true_eq, List.all_eq_true] at this
  exact ⟨by rcases this.1.1.1 with (h | h) | h <;> simp [h], this.1.1.2, this.1.2, this.2⟩
theorem law_p {ns : List Int} {f r : Str} {us : List Str} {rows : List Row} {d : Str} (hf : (f, r, us) ∈ frontTab) (hd : d ∈ detourTab) (h : LastI rows) : LawP f r us (partsX ns rows rows.length ++ [d]) rows := by
  obtain ⟨hr, hul, hfl, hus⟩ := front_facts hf
  have dl : ∀ d ∈ detourTab, d.length ≤ 11 := by
    have e : (detourTab.all fun d => decide (d.length ≤ 11)) = true := by decide +kernel
    intro d hd
    have := List.all_eq_true.mp e d hd
    simpa using this
  have hrl : r.length ≤ 2 := by rcases hr with rfl | rfl | rfl <;> decide +kernel
  have hu2 : ∀ u ∈ us, u.length = 2 := fun u hu => by rw [hus u hu]; decide +kernel
  have hps : partsX ns rows rows.length ++ [d] = partsR ((List.range rows.length).map fun k => (detF ns k, Txt.join (Str.ofString "") ((rows.getD k []).map (·.1)))) d := by
    rw [partsX_R ns rows d]; rfl
  have hpat : ((List.range rows.length).map fun k => (detF ns k, Txt.join (Str.ofString "") ((rows.getD k []).map (·.1)))).map (·.2) = pats rows := by
    rw [List.map_map]
    exact map_getD (fun r => Txt.join (Str.ofString "") (r.map (·.1))) rows
  have hpp : ∀ p ∈ pats rows, part p ∧ p.length ≤ 156 := by
    rw [pats_cat]
    intro p hp
    obtain ⟨q, hq, rfl⟩ := List.mem_map.mp hp
    exact ⟨part_row h hq, (row_len h hq).1⟩
  have hnp : ((List.range rows.length).map fun k => (detF ns k, Txt.join (Str.ofString "") ((rows.getD k []).map (·.1)))) ≠ [] := by
    intro e
    have := congrArg List.length e
    rw [List.length_map, List.length_range] at this
    exact h.ne (List.eq_nil_of_length_eq_zero this)
  have hpl : (pats rows).length = rows.length := by unfold pats; rw [List.length_map]
  have hnorm := norm_law (l := (List.range rows.length).map fun k => (detF ns k, Txt.join (Str.ofString "") ((rows.getD k []).map (·.1)))) (d := d) hf (by
    intro p hp
    obtain ⟨k, hk, rfl⟩ := List.mem_map.mp hp
    refine ⟨detF_mem ns k, ?_⟩
    have hk' : k < rows.length := List.mem_range.mp hk
    have : Txt.join (Str.ofString "") ((rows.getD k []).map (·.1)) ∈ pats rows := by
      rw [← hpat]
      exact List.mem_map.mpr ⟨_, List.mem_map.mpr ⟨k, hk, rfl⟩, rfl⟩
    exact (hpp _ this).1) hd hnp
  rw [hpat] at hnorm
  have hsum : ((partsX ns rows rows.length ++ [d]).map (·.length)).sum ≤ 4200 ∧ (partsX ns rows rows.length ++ [d]).length ≤ 25 := by
    have hall : ∀ y ∈ partsX ns rows rows.length ++ [d], y.length ≤ 156 := by
      rw [partsX_R ns rows d]
      intro y hy
      rcases List.mem_append.mp hy with hy | hy
      · obtain ⟨z, hz, hy⟩ := List.mem_flatMap.mp hy
        obtain ⟨k, hk, rfl⟩ := List.mem_map.mp hz
        simp only [List.mem_cons, List.not_mem_nil, or_false] at hy
        rcases hy with rfl | rfl
        · have := dl _ (detF_mem ns k); lia
        · have : Txt.join (Str.ofString "") ((rows.getD k []).map (·.1)) ∈ pats rows := by
            rw [← hpat]
            exact List.mem_map.mpr ⟨_, List.mem_map.mpr ⟨k, hk, rfl⟩, rfl⟩
          exact (hpp _ this).2
      · rw [List.mem_singleton.mp hy]
        have := dl d hd; lia
    have hlen : (partsX ns rows rows.length ++ [d]).length ≤ 25 := by
      have e : ∀ n, (partsX ns rows n).length = 2 * n := by
        intro n
        induction n with
        | zero => rfl
        | succ n ih => show (partsX ns rows n ++ [_, _]).length = _; rw [List.length_append, ih]; simp; lia
      rw [List.length_append, e]
      have := h.len
      simp; lia
    have := sumB hall
    refine ⟨?_, hlen⟩
    have := Nat.mul_le_mul_right 156 hlen
    lia
  have hparts : ∀ p ∈ us ++ pats rows, p.length ≠ 0 ∧ 47 ∉ cl p := by
    intro p hp
    rcases List.mem_append.mp hp with hp | hp
    · rw [hus p hp]; decide +kernel
    · exact ⟨(hpp p hp).1.1.1, (hpp p hp).1.2⟩
  have hne : us ++ pats rows ≠ [] := by
    intro e
    have := (List.append_eq_nil_iff.mp e).2
    rw [this] at hpl
    exact h.ne (List.eq_nil_of_length_eq_zero hpl.symm)
  obtain ⟨n, hn⟩ : ∃ n, (us ++ pats rows).length = n + 1 := by
    cases e : us ++ pats rows with
    | nil => exact absurd e hne
    | cons a l => exact ⟨l.length, rfl⟩
  have hlsl : (Str.ofString "/").length = 1 := by decide +kernel
  have jl : (Str.join (Str.ofString "/") (us ++ pats rows)).length ≤ 2300 := by
    have h1 := jn_len (Str.ofString "/") (us ++ pats rows)
    have h2 := sumB (B := 156) (l := us ++ pats rows) fun y hy => by
      rcases List.mem_append.mp hy with hy | hy
      · have := hu2 y hy; lia
      · exact (hpp y hy).2
    have h3 : (us ++ pats rows).length ≤ 14 := by rw [List.length_append, hpl]; have := h.len; lia
    rw [hlsl] at h1
    have := Nat.mul_le_mul_right 156 h3
    lia
  -- the pieces of the whole
  obtain ⟨a, rl, osl, hrows, hcl, hpl2, hosl⟩ := h.sp
  have hur : ∀ q ∈ (us.map chR) ++ a, clB false q = true := by
    intro q hq
    rcases List.mem_append.mp hq with hq | hq
    · obtain ⟨u, hu, rfl⟩ := List.mem_map.mp hq
      rw [hus u hu]; decide +kernel
    · exact hcl q hq
  have hal : a.length ≤ 11 := by have := h.len; rw [hrows, List.length_append, List.length_singleton] at this; lia
  obtain ⟨os1, ho1, hl1⟩ := sepR_pcs hpl2 hur
  rw [List.append_assoc, ← hrows] at ho1
  obtain ⟨os2, ho2, hl2⟩ := pcs_app (a := chR r) (b := sepR (us.map chR ++ rows)) (os := os1) (f := false)
    (by rcases hr with rfl | rfl | rfl <;> decide +kernel) (by
      have : flB false (chR r) = false := by rcases hr with rfl | rfl | rfl <;> decide +kernel
      rw [this]; exact ho1)
  have hcount : os2.length ≤ 10000 := by
    have h1 : (((us.map chR) ++ a).map (·.length)).sum ≤ 4 + 11 * 13 := by
      rw [List.map_append, List.sum_append]
      have e1 : ((us.map chR).map (·.length)).sum ≤ 4 := by
        have : (us.map chR).map (·.length) = us.map fun _ => 2 := by
          rw [List.map_map]
          refine List.map_congr_left fun u hu => ?_
          show (chR u).length = 2
          unfold chR
          rw [List.length_map, cl_len, hu2 u hu]
        rw [this, List.map_const', List.sum_replicate_nat]
        lia
      have e2 : ∀ (l : List Row), (∀ q ∈ l, q.length ≤ 13) → (l.map (·.length)).sum ≤ l.length * 13 := by
        intro l
        induction l with
        | nil => intro _; simp
        | cons q l ih =>
          intro hq
          have h1 := hq q (.head _)
          have h2 := ih fun z hz => hq z (.tail _ hz)
          simp only [List.map_cons, List.sum_cons, List.length_cons, Nat.add_mul]
          lia
      have e3 := e2 a fun q hq => (h.tx q (by rw [hrows]; exact List.mem_append.mpr (.inl hq))).1
      have e4 := Nat.mul_le_mul_right 13 hal
      lia
    have h2 : (us.map chR ++ a).length ≤ 13 := by rw [List.length_append, List.length_map]; lia
    have h3 : (chR r).length ≤ 2 := by unfold chR; rw [List.length_map, cl_len]; exact hrl
    lia
  have c1 : cat ((chR r ++ sepR (us.map chR ++ rows)).map (·.1)) = r ++ Txt.join (Str.ofString "/") (us ++ pats rows) := by
    rw [List.map_append, cat_app, chR_cat1, sepR_map _ rfl, tjoin, pats_cat, List.map_append, List.map_map]
    congr 3
    conv => rhs; rw [← List.map_id us]
    refine List.map_congr_left fun u _ => chR_cat1 u
  have c2 : cat ((chR r ++ sepR (us.map chR ++ rows)).map (·.2)) = r ++ Txt.join (Str.ofString "/") (us ++ sigs rows) := by
    rw [List.map_append, cat_app, chR_cat2, sepR_map _ rfl, tjoin, sigs_cat, List.map_append, List.map_map]
    congr 3
    conv => rhs; rw [← List.map_id us]
    refine List.map_congr_left fun u _ => chR_cat2 u
  have hsj : ((us ++ sigs rows).map (·.length)).sum + (us ++ sigs rows).length ≤ 9000 := by
    have h2 := sumB (B := 26) (l := us ++ sigs rows) fun y hy => by
      rcases List.mem_append.mp hy with hy | hy
      · have := hu2 y hy; lia
      · rw [sigs_cat] at hy
        obtain ⟨q, hq, rfl⟩ := List.mem_map.mp hy
        exact (row_len h hq).2
    have h3 : (us ++ sigs rows).length ≤ 14 := by
      have : (sigs rows).length = rows.length := by unfold sigs; rw [List.length_map]
      rw [List.length_append, this]; have := h.len; lia
    have := Nat.mul_le_mul_right 26 h3
    lia
  have sgl : (r ++ Txt.join (Str.ofString "/") (us ++ sigs rows)).length ≤ 10000 := by
    rw [len_app, tjoin]
    have h1 := jn_len (Str.ofString "/") (us ++ sigs rows)
    rw [hlsl] at h1
    lia
  have hrd := read_pcs ho2 hcount (by rw [c2]; exact sgl)
  rw [c1, c2] at hrd
  refine ⟨by lia, by have := pjf_len (partsX ns rows rows.length ++ [d]) f; lia, ?_, ?_, hul, by rw [len_app, tjoin]; lia, hsj, hrl, ?_, ⟨os2, hrd.1, hrd.2⟩⟩
  · rw [hps, hnorm, tjoin_sl]
  · rw [tjoin_sl]
    exact tails_law hr hn hparts
  · intro i hi
    have hrow : rows[i] ∈ rows := List.getElem_mem hi
    have g1 : (pats rows).getD i (Str.ofString "") = cat (rows[i].map (·.1)) := by
      rw [pats_cat]; simp [List.getD, hi]
    have g2 : (sigs rows).getD i (Str.ofString "") = cat (rows[i].map (·.2)) := by
      rw [sigs_cat]; simp [List.getD, hi]
    have hlen := row_len h hrow
    rw [g1, g2]
    obtain ⟨os, ho, hol⟩ : ∃ os, Pcs false rows[i] os ∧ os.length ≤ 20 := by
      have hm : rows[i] ∈ a ++ [rl] := hrows ▸ hrow
      rcases List.mem_append.mp hm with hm | hm
      · obtain ⟨os, h1, h2⟩ := pcs_row (hcl _ hm)
        exact ⟨os, h1, by have := (h.tx _ hrow).1; lia⟩
      · rw [List.mem_singleton.mp hm]
        exact ⟨osl, hpl2, by lia⟩
    have := read_pcs ho (by lia) (by lia)
    exact ⟨by lia, os, this.1, this.2⟩
end

section
open PySem PySem.W PyProof.Rows PySem.Calls PyProof.Rows.LCg
/-! a comprehension whose element reads one text by a function that may fill the code table -/
theorem tab_sub {posL : Pos} {q : Str} {l l' : List (Addr × Obj)} {tb : Array Value} (h : TabOk posL q l tb) (hs : ∀ p ∈ l, p ∈ l') : TabOk posL q l' tb :=
  ⟨h.tri, h.lam.imp id fun ⟨c, oc, vs, t, a, b, c2, d⟩ => ⟨c, oc, vs, t, a, hs _ b, c2, d⟩⟩
theorem tab_cut {posL : Pos} {q : Str} {ex rest : List (Addr × Obj)} {tb : Array Value} {I C D : Addr} {oI oC : Obj} {ys : List Value} {m : Str → Option Value}
    (h : TabOk posL q (ex ++ (I, oI) :: (C, oC) :: (D, lst ys) :: rest) tb) (hI : NoTxt oI) (hC : NsObj oC m) : TabOk posL q (ex ++ rest) tb := by
  refine ⟨h.tri, h.lam.imp id fun ⟨c, oc, vs, t, a, b, c2, d⟩ => ⟨c, oc, vs, t, a, ?_, c2, d⟩⟩
  rcases List.mem_append.mp b with b | b
  · exact List.mem_append.mpr (.inl b)
  rcases List.mem_cons.mp b with e | b
  · cases e; exact (hI _ _ _ c2 d).elim
  rcases List.mem_cons.mp b with e | b
  · cases e; obtain ⟨es, ep, e, _⟩ := hC; rw [e] at c2; cases c2
  rcases List.mem_cons.mp b with e | b
  · cases e; cases c2
  exact List.mem_append.mpr (.inr b)
theorem tab_filter {h₀ h : Heap} {L : Addr} {posL : Pos} {q : Str} {ex rest : List (Addr × Obj)} {tb : Array Value} {I C D : Addr} {oI oC : Obj} {ys : List Value} {m : Str → Option Value} {p0 : Addr × Obj}
    (N : News h₀ L h (p0 :: (ex ++ (I, oI) :: (C, oC) :: (D, lst ys) :: rest))) (h1 : TabOk posL q (ex ++ (I, oI) :: (C, oC) :: (D, lst ys) :: rest) tb) (hI : NoTxt oI) (hC : NsObj oC m) :
    ∃ ex', (∀ p ∈ ex', p ∈ ex) ∧ Off3 I C D ex' ∧ TabOk posL q (ex' ++ (I, oI) :: (C, oC) :: (D, lst ys) :: rest) tb := by
  refine ⟨ex.filter fun p => decide (@Ne Nat p.1 I ∧ @Ne Nat p.1 C ∧ @Ne Nat p.1 D), fun p hp => (List.mem_filter.mp hp).1, Off3.of fun p hp => of_decide_eq_true (List.mem_filter.mp hp).2, ?_⟩
  have M : ∀ p, p ∈ ex ++ (I, oI) :: (C, oC) :: (D, lst ys) :: rest → p ∈ p0 :: (ex ++ (I, oI) :: (C, oC) :: (D, lst ys) :: rest) := fun p hp => .tail _ hp
  have eI := (N _ (M (I, oI) (List.mem_append.mpr (.inr (.head _))))).1
  have eC := (N _ (M (C, oC) (List.mem_append.mpr (.inr (.tail _ (.head _)))))).1
  have eD := (N _ (M (D, lst ys) (List.mem_append.mpr (.inr (.tail _ (.tail _ (.head _))))))).1
  refine ⟨h1.tri, h1.lam.imp id fun ⟨c, oc, vs, t, a, b, c2, d⟩ => ⟨c, oc, vs, t, a, ?_, c2, d⟩⟩
  have ec := (N _ (M _ b)).1
  rcases List.mem_append.mp b with b | b
  · refine List.mem_append.mpr (.inl (List.mem_filter.mpr ⟨b, decide_eq_true ⟨?_, ?_, ?_⟩⟩))
    · intro e
      have e' : c = I := e
      rw [show ((c, oc) : Addr × Obj).1 = I from e'] at ec
      cases (Option.some.inj (ec.symm.trans eI)); exact hI _ _ _ c2 d
    · intro e
      have e' : c = C := e
      rw [show ((c, oc) : Addr × Obj).1 = C from e'] at ec
      cases (Option.some.inj (ec.symm.trans eC)); obtain ⟨es, ep, e, _⟩ := hC; rw [e] at c2; cases c2
    · intro e
      have e' : c = D := e
      rw [show ((c, oc) : Addr × Obj).1 = D from e'] at ec
      cases (Option.some.inj (ec.symm.trans eD)); cases c2
  · exact List.mem_append.mpr (.inr b)
section
variable {prog : Program} {w : World} {A : Around} {E : Value → Shared → Prop} {s₁ : Shared} {h₀ : Heap} {L : Addr} {m : Str → Option Value} {env : Env} {elt : Expr} {x : Str} {scope : Scope} {cl : List (Str × Addr)} {Q : Value → Shared → Prop} {posL : Pos} {qual : Str}
theorem read_src {o : OsState} {ax : Addr} {vs : List Value} {nn : Nat} {news rest9 : List (Addr × Obj)} {ps zs : List Str} {tb0 : Array Value} (hh : A.handled = none) (F : Fr h₀ L s₁.heap m) (N : News h₀ L s₁.heap news) (hz : vs.length ≤ sizeLine)
    (hm : (ax, listOf vs.toArray nn) ∈ rest9) (hr : ∀ p ∈ rest9, p ∈ news) (h57 : (57, tabObj tb0) ∈ news) (hoff : ∀ p ∈ rest9, p.1 ≠ 57) (hB : Bare o s₁) (hT0 : TabOk posL qual rest9 tb0) (hi : StrsAre vs ps) (hl : zs.length = ps.length)
    (turn : ∀ (i : Nat) p t y tb ex ys I oI C oC D m₂ s₂ (E' : Value → Shared → Prop), ps[i]? = some p → zs[i]? = some y → Bare o s₂ → NsObj oC m₂ → m₂ x = some (.str p t) → Fr h₀ L s₂.heap m →
      News h₀ L s₂.heap ((I, oI) :: (C, oC) :: (D, lst ys) :: (57, tabObj tb) :: (ex ++ rest9)) → Off3 I C D ((57, tabObj tb) :: (ex ++ rest9)) → ((@Ne Nat I C) ∧ (@Ne Nat I D) ∧ (@Ne Nat C D)) →
      News h₀ L s₂.heap ((57, tabObj tb) :: ((I, oI) :: (C, oC) :: (D, lst ys) :: (ex ++ rest9))) → (∀ q ∈ (I, oI) :: (C, oC) :: (D, lst ys) :: (ex ++ rest9), q.1 ≠ 57) → TabOk posL qual ((I, oI) :: (C, oC) :: (D, lst ys) :: (ex ++ rest9)) tb →
      wpAny (model prog w) A (eval elt (compEnvC scope cl C env)) (fun r s₃ => ∃ tb' ex' u, r = .str y u ∧ Bare o s₃ ∧ Fr h₀ L s₃.heap m ∧ News h₀ L s₃.heap ((57, tabObj tb') :: (ex' ++ (I, oI) :: (C, oC) :: (D, lst ys) :: (ex ++ rest9))) ∧ TabOk posL qual (ex' ++ (I, oI) :: (C, oC) :: (D, lst ys) :: (ex ++ rest9)) tb' ∧ (∀ q ∈ ex', q.1 ≠ 57)) E' s₂)
    (fin : ∀ ys D tb ex s₂, StrsAre ys zs → Bare o s₂ → Fr h₀ L s₂.heap m → News h₀ L s₂.heap ((D, lst ys) :: (57, tabObj tb) :: (ex ++ rest9)) → TabOk posL qual (ex ++ rest9) tb → (∀ q ∈ ex, q.1 ≠ 57) → Off1 D ((57, tabObj tb) :: (ex ++ rest9)) → Q (.ref D) s₂) :
    GSrc prog w A h₀ L m env elt x scope cl Q (.ref ax) s₁ := by
  have hlen := hi.len_eq
  refine ⟨o, fun i ys nw => ∃ tb ex, nw = (57, tabObj tb) :: (ex ++ rest9) ∧ TabOk posL qual (ex ++ rest9) tb ∧ (∀ q ∈ ex, q.1 ≠ 57) ∧ StrsAre ys (zs.take i), ax, vs, nn, (57, tabObj tb0) :: rest9, rfl, hh, F,
    fun p hp => (List.mem_cons.mp hp).elim (fun e => e ▸ N _ h57) fun h => N _ (hr _ h), hz, ?_, ⟨tb0, [], rfl, hT0, (fun _ h => by cases h), .nil⟩, hB, ?_, ?_⟩
  · rintro i ys nw ⟨tb, ex, rfl, -⟩
    exact .tail _ (List.mem_append.mpr (.inr hm))
  · rintro i v ys nw I oI C oC D m₂ s₂ E' hv ⟨tb, ex, rfl, hT, hex, hS⟩ hB2 hC hx F2 N2 off ne hI
    have hlt : i < vs.length := (List.getElem?_eq_some_iff.mp hv).1
    obtain ⟨t, ht⟩ := strs_get hi i hlt
    have ev : v = .str (ps.getD i Str.empty) t := by
      rw [← ht]; exact ((List.getElem?_eq_some_iff.mp hv).2).symm
    have hp : ps[i]? = some (ps.getD i Str.empty) := by simp [List.getD, List.getElem?_eq_getElem (show i < ps.length by lia)]
    have hy : zs[i]? = some (zs.getD i Str.empty) := by simp [List.getD, List.getElem?_eq_getElem (show i < zs.length by lia)]
    have om := off.mem
    have o57 := om _ (.head _)
    have hN : News h₀ L s₂.heap ((57, tabObj tb) :: ((I, oI) :: (C, oC) :: (D, lst ys) :: (ex ++ rest9))) := fun p hp => by
      refine N2 p ?_
      simp only [List.mem_cons] at hp ⊢
      rcases hp with h | h | h | h | h <;> simp [h]
    refine wpAny_mono (turn i _ t _ tb ex ys I oI C oC D m₂ s₂ E' hp hy hB2 hC (ev ▸ hx) F2 N2 off ne hN ?_ (tab_sub hT fun p hp => .tail _ (.tail _ (.tail _ hp)))) (fun r s₃ h => ?_) fun _ _ e => e
    · intro q hq
      rcases List.mem_cons.mp hq with rfl | hq
      · exact Ne.symm o57.1
      rcases List.mem_cons.mp hq with rfl | hq
      · exact Ne.symm o57.2.1
      rcases List.mem_cons.mp hq with rfl | hq
      · exact Ne.symm o57.2.2
      exact (List.mem_append.mp hq).elim (hex q) (hoff q)
    · obtain ⟨tb', ex0, u, rfl, hB3, F3, N3, hT3, hex0⟩ := h
      obtain ⟨ex', hsub, hof3, hT3⟩ := tab_filter N3 hT3 hI hC
      have hex3 : ∀ q ∈ ex', q.1 ≠ 57 := fun q hq => hex0 q (hsub q hq)
      refine ⟨(57, tabObj tb') :: ((ex' ++ ex) ++ rest9), hB3, F3, fun p hp => N3 p ?_, ?_, tb', ex' ++ ex, rfl, ?_, ?_, ?_⟩
      · simp only [List.mem_cons, List.mem_append] at hp ⊢
        rcases hp with h | h | h | h | (h | h) | h
        all_goals first | (simp [h]; done) | (have := hsub _ h; simp [this])
      · refine Off3.of fun p hp => ?_
        rcases List.mem_cons.mp hp with rfl | hp
        · exact o57
        rcases List.mem_append.mp hp with hp | hp
        · rcases List.mem_append.mp hp with hp | hp
          · exact hof3.mem _ hp
          · exact om _ (.tail _ (List.mem_append.mpr (.inl hp)))
        · exact om _ (.tail _ (List.mem_append.mpr (.inr hp)))
      · rw [List.append_assoc]; exact tab_cut hT3 hI hC
      · exact fun q hq => (List.mem_append.mp hq).elim (hex3 q) (hex q)
      · rw [List.take_add_one, hy]; exact strs_snoc hS
  · rintro ys nw D s₂ ⟨tb, ex, rfl, hT, hex, hS⟩ hB2 F2 N2 off
    rw [List.take_of_length_le (by lia)] at hS
    exact fin ys D tb ex s₂ hS hB2 F2 N2 hT hex off
end
end

section
open PySem PySem.W PyProof.Rows PySem.Calls PyProof.Rows.LCg
section
variable {prog : Program} {w : World} {A : Around} {E : Value → Shared → Prop} {s : Shared} {h₀ : Heap} {L D : Addr} {nw : List (Addr × Obj)} {vs : List Value} {ys : List Str} {n : Nat}
theorem len_vals {Q : Value → Shared → Prop} (N : News h₀ L s.heap nw) (hm : (D, listOf vs.toArray n) ∈ nw) (hb : vs.length ≤ 1000000) (h : Q (.int (vs.length : Int) (s.toks + 1)) { s with toks := s.toks + 1 + 1 }) : wpAny (model prog w) A (call (.builtin "len") [.ref D]) Q E s :=
  len_list (lst_at N hm) (by rw [List.size_toArray]; omega) (by rw [List.size_toArray]; exact h)
theorem strs_getD {vs : List Value} {ys : List Str} (h : StrsAre vs ys) : ∀ (i : Nat), i < ys.length → ∃ t, vs[i]? = some (.str (ys.getD i (Str.ofString "")) t) := by
  induction h with
  | nil => intro i h; cases h
  | cons y t r ih =>
    intro i h
    cases i with
    | zero => exact ⟨t, rfl⟩
    | succ i => obtain ⟨u, hu⟩ := ih i (by simpa using h); exact ⟨u, by simpa using hu⟩
theorem item_sel {value slice : Expr} {iv : Int} {u : Tok} {Q : Value → Shared → Prop} (N : News h₀ L s.heap nw) (hm : (D, listOf vs.toArray n) ∈ nw) (hi : StrsAre vs ys) (h0 : 0 ≤ iv) (h1 : iv < (ys.length : Int)) (hb : ys.length ≤ 1000000)
    (h : ∀ t, Q (.str (ys.getD iv.toNat (Str.ofString "")) t) s) (hs : subscripted slice false (.ref D) (.int iv u) = operate [.ref D, .int iv u] (getItem (.ref D) (.int iv u)) := by with_unfolding_all rfl) :
    wpAny (model prog w) A (subscriptTail value slice (.ref D) (.int iv u)) Q E s := by
  obtain ⟨t, ht⟩ := strs_getD hi iv.toNat (by omega)
  exact item_vals iv.toNat N hm (by omega) (by omega) ht (h t) hs
end
/-- the parts before the k-th row -/
noncomputable def partsN (ns : List Int) (f : Str) (rows : List Row) : Nat → List Str
  | 0 => [f]
  | k + 1 => partsN ns f rows k ++ [detF ns k, Txt.join (Str.ofString "") ((rows.getD k []).map (·.1))]
theorem ItsAt.at {l : List (Addr × Obj)} : ∀ {ws r}, ItsAt l ws r → ∀ (i : Nat) v, ws[i]? = some v → ∃ D p q t u n, v = .ref D ∧ r[i]? = some (p, q) ∧ (D, listOf #[.str p t, .str q u] n) ∈ l
  | _, _, .nil, i, v, h => by simp at h
  | _, _, .cons a b, 0, v, h => by cases h; exact ⟨_, _, _, _, _, _, rfl, rfl, a⟩
  | _, _, .cons a b, i + 1, v, h => b.at i v (by simpa using h)
theorem sum_le {B : Nat} : ∀ {l : List Str}, (∀ y ∈ l, y.length ≤ B) → (l.map (·.length)).sum ≤ l.length * B
  | [], _ => Nat.zero_le _
  | y :: l, h => by
    have h1 := h y (.head _)
    have h2 := sum_le (l := l) fun z hz => h z (.tail _ hz)
    rw [List.map_cons, List.sum_cons, List.length_cons, Nat.add_mul]
    omega
theorem rowsB_sum {rows : List Row} (h : RowsB rows) {r : Row} (hr : r ∈ rows) : ((r.map (·.1)).map (·.length)).sum + (r.map (·.1)).length ≤ 1000 ∧ ((r.map (·.2)).map (·.length)).sum + (r.map (·.2)).length ≤ 1000 := by
  obtain ⟨h1, h2⟩ := h.2 r hr
  have a := sum_le (B := 12) (l := r.map (·.1)) fun y hy => by obtain ⟨q, hq, rfl⟩ := List.mem_map.mp hy; exact (h2 q hq).1
  have b := sum_le (B := 12) (l := r.map (·.2)) fun y hy => by obtain ⟨q, hq, rfl⟩ := List.mem_map.mp hy; exact (h2 q hq).2
  rw [List.length_map] at a b
  rw [List.length_map, List.length_map]
  omega
theorem src_in {h₀ : Heap} {ax : Addr} {vs : List Value} {n : Nat} {nw : List (Addr × Obj)} (h : (ax, listOf vs.toArray n) ∈ nw) : SrcAt h₀ ax vs.toArray nw := .inr ⟨_, h, rfl, _, rfl⟩
theorem ints_of : ∀ {vs : List Value} {ns : List Int}, vs.length = ns.length → (∀ (i : Nat) v, vs[i]? = some v → ∃ x u, ns[i]? = some x ∧ v = Value.int x u) → IntsAre vs ns
  | [], [], _, _ => .nil
  | v :: vs, n :: ns, h, hv => by
    obtain ⟨x, u, h1, rfl⟩ := hv 0 v rfl
    cases h1
    exact .cons _ _ (ints_of (by simpa using h) fun i v hi => hv (i + 1) v (by simpa using hi))
theorem partsN_len (ns : List Int) (f : Str) (rows : List Row) : ∀ (k : Nat), k ≤ 400 → (partsN ns f rows k).length ≤ 1000 := by
  have h : ∀ k, (partsN ns f rows k).length = 1 + 2 * k := by
    intro k
    induction k with
    | zero => rfl
    | succ k ih => show (partsN ns f rows k ++ [_, _]).length = _; rw [List.length_append, ih]; simp; omega
  intro k hk
  rw [h]; omega
structure PaS where
  vs : List Value
  n : Nat
theorem pa_end {h₀ : Heap} {L Pp : Addr} {bs own nw : List (Addr × Obj)} {x : Str} {m₀ m' : Str → Option Value} {g : Nat → List Str} {pre' : List Int} {s₁ : Shared} {h' : Heap} {tk : Nat} {vs : List Value} {n : Nat} {vs₀ : List Value} {n₀ : Nat} (F : Fr h₀ L h' m') (N : News h₀ L h' nw)
    (hn : ∀ p ∈ (Pp, listOf vs.toArray n) :: bs, p ∈ nw) (ho : ∀ p ∈ own, p ∈ nw) (hr : ∀ z, z ≠ x → m' z = m₀ z) (hS : StrsAre vs (g pre'.length)) :
    InvEndN h₀ L (KstS (fun c : PaS => (Pp, listOf c.vs.toArray c.n) :: bs) (fun _ => []) (fun _ => True) x [] m₀ (fun pre c => StrsAre c.vs (g pre.length)) pre') own (((Pp, listOf vs₀.toArray n₀) :: bs).map (·.1)) s₁ { s₁ with heap := h', toks := tk } :=
  ⟨h', tk, m', nw, (Pp, listOf vs.toArray n) :: bs, rfl, F, N, hn, ho, rfl, ⟨vs, n⟩, rfl, trivial, (fun _ h => nomatch h), fun z h _ _ => hr z h, hS⟩
theorem partsN_cons (ns : List Int) (f : Str) (rows : List Row) : ∀ k, partsN ns f rows k = f :: partsX ns rows k
  | 0 => rfl
  | k + 1 => by show partsN ns f rows k ++ _ = _; rw [partsN_cons ns f rows k]; rfl
theorem parts_cons {vs : List Value} {ns : List Int} {f : Str} {rows : List Row} {k : Nat} {d : Str} (h : StrsAre vs (partsN ns f rows k ++ [d])) : ∃ t ws, vs = .str f t :: ws ∧ StrsAre ws (partsX ns rows k ++ [d]) := by
  rw [partsN_cons] at h
  cases h with
  | cons y t h => exact ⟨t, _, rfl, h⟩
theorem up_vals (vs : List Value) (k : Nat) : slicePick vs.toArray none (some (k : Int)) none = (vs.take k).toArray := by
  rw [kms_pick_eq]
  congr 1
  unfold kms_pick
  have h := int_nn k
  simp [kms_lo, kms_hi, h]
theorem from_vals (vs : List Value) (k : Nat) : slicePick vs.toArray (some (k : Int)) none none = (vs.drop k).toArray := by
  rw [kms_pick_eq]
  congr 1
  unfold kms_pick
  have h := int_nn k
  simp [kms_lo, kms_hi, h]
  rw [kmk_drop_min, List.take_of_length_le (by rw [List.length_drop]; exact Nat.sub_le_sub_left (Nat.min_le_left _ _) _)]
structure FrS where
  f : Str
  r : Str
  tf : Tok
  tr : Tok
  U : Addr
  uv : List Value
  n : Nat
theorem fr_meet {s : Shared} {h₀ : Heap} {L : Addr} {m₀ m' : Str → Option Value} {h' : Heap} {tk : Nat} {nw : List (Addr × Obj)} {U : Addr} {f r : Str} {us : List Str} {uv : List Value} {tf tr : Tok} {n : Nat} {x : Int} {o : Obj} (F : Fr h₀ L h' m') (N : News h₀ L h' nw)
    (hk1 : m' (Str.ofString "front") = some (.str f tf)) (hk2 : m' (Str.ofString "root") = some (.str r tr)) (hk3 : m' (Str.ofString "ups") = some (.ref U)) (hq : frontTab[(x.fmod 6).toNat]? = some (f, r, us)) (hu : StrsAre uv us) (hne : @LT.lt Nat _ 57 U) (hm : (U, listOf uv.toArray n) ∈ nw) (hm2 : (57, o) ∈ nw)
    (hz : ∀ z, z ≠ Str.ofString "front" → z ≠ Str.ofString "root" → z ≠ Str.ofString "ups" → m' z = m₀ z) :
    MeetK s h₀ L (fun c : FrS => (c.U, listOf c.uv.toArray c.n) :: (57, o) :: []) (fun c => [(Str.ofString "front", .str c.f c.tf), (Str.ofString "root", .str c.r c.tr), (Str.ofString "ups", .ref c.U)]) [] m₀ (fun c => (@LT.lt Nat _ 57 c.U) ∧ ∃ us, frontTab[(x.fmod 6).toNat]? = some (c.f, c.r, us) ∧ StrsAre c.uv us) { s with heap := h', toks := tk } :=
  meetK (⟨f, r, tf, tr, U, uv, n⟩ : FrS) F N (List.forall_mem_cons.mpr ⟨hm, List.forall_mem_cons.mpr ⟨hm2, fun _ h => nomatch h⟩⟩) (List.forall_mem_cons.mpr ⟨hk1, List.forall_mem_cons.mpr ⟨hk2, List.forall_mem_cons.mpr ⟨hk3, fun _ h => nomatch h⟩⟩⟩)
    (fun z h _ => hz z (h _ (.head _)) (h _ (.tail _ (.head _))) (h _ (.tail _ (.tail _ (.head _))))) ⟨hne, us, hq, hu⟩
section
variable {Pre : Heap → Prop} {prog : Program} {w : World} {K : Frag} {p : Program} {loose : List Str} {mean : ExcName → Option Value} {mg mb : Str → Option Value} {f : Addr} {dep : Nat} {news : List (Addr × Obj)} {vs : List Value} {Ro : List (Addr × Obj) → Value → Prop}
theorem DoesP.use {dp un : Nat} {gd : Option (List Code)} {cn : Str} {cs : Scope} {a : Addr} {ccd : Value} {cl : List (Str × Addr)} {outer : List Env} {A₀ : Around} {base h₀ : Heap} {L : Addr} {m : Str → Option Value} {s : Shared} {Q E : Value → Shared → Prop}
    (hp : Pre h₀) (B : Below A₀ base outer h₀) (F : Fr h₀ L s.heap m) (X : K.In h₀) (N : News h₀ L s.heap news) (T : Top p loose mean mg mb h₀) (hk : cs.kind = .function) (hd : dp + dep < recursionLimit) (hu : un + 8 * dep < cLine)
    (D : DoesP Pre prog w K p loose mean mg mb f dep news vs Ro)
    (h : ∀ (news' : List (Addr × Obj)) (r : Value) (h' : Heap) (tk' : Nat), Ro news' r → Fr h₀ L h' m → News h₀ L h' news' → Q r { s with heap := h', toks := tk' }) :
    wpAny (model prog w) (ktrTop dp un gd cn cs L a ccd cl outer) (call (.ref f) vs) Q E s := D dp un gd cn cs a ccd cl outer A₀ base h₀ L m s Q E hp B F X N T hk hd hu h
end
theorem law_room {n : Nat} (h : n ≤ 20) : callerA.depth + 1 + n < recursionLimit := by
  rw [depth_caller]; unfold recursionLimit; omega
theorem law_units {n : Nat} (h : n ≤ 20) : callerA.units + 3 + 8 * n < cLine := by
  have := cLine_is; rw [units_caller]; omega
theorem mw_L6_0 : True := by
  k_with_none
  trivial
theorem mw_L6_1 : True := by
  (k_with "Mdrop" => first | assumption | (refine' cb_drop ?cbN ?cbS; (case cbN => assumption); (case cbS => kcj_all)))
  trivial
theorem mw_L6_2 : True := by
  (k_with "Muse" => (
        (case k1 => k_asm)
        (case k2 => k_asm)
        (case k3 => k_asm)
        (case k4 => k_asm)
        (case k5 => k_asm)
        (case k6 => exact rfl)
        (case k7 => exact law_room (by decide))
        (case k8 => exact law_units (by decide))))
  (k_with "call ref" => (refine stuck_at ?_))
  (k_with "Mright" => first | assumption | exact And.right (by assumption) | exact And.right (And.right (by assumption)) | exact And.right (And.right (And.right (by assumption))) | exact And.right (And.right (And.right (And.right (by assumption)))) | exact And.right (And.right (And.right (And.right (And.right (by assumption))))) | exact And.right (And.right (And.right (And.right (And.right (And.right (by assumption)))))) | exact And.right (And.right (And.right (And.right (And.right (And.right (And.right (by assumption))))))) | exact And.right (And.right (And.right (And.right (And.right (And.right (And.right (And.right (by assumption)))))))) | exact And.right (And.right (And.right (And.right (And.right (And.right (And.right (And.right (And.right (by assumption))))))))) | exact And.right (And.right (And.right (And.right (And.right (And.right (And.right (And.right (And.right (And.right (by assumption)))))))))) | exact And.right (And.right (And.right (And.right (And.right (And.right (And.right (And.right (And.right (And.right (And.right (by assumption))))))))))) | exact And.right (And.right (And.right (And.right (And.right (And.right (And.right (And.right (And.right (And.right (And.right (And.right (by assumption)))))))))))) | exact And.right (And.right (And.right (And.right (And.right (And.right (And.right (And.right (And.right (And.right (And.right (And.right (And.right (by assumption))))))))))))))
  (k_with "Mfr" => (with_reducible refine' fr_meet ?hF ?hN ?hk1 ?hk2 ?hk3 ?hq ?hu ?hne ?hm ?hm2 ?hz; (case hF => assumption); (case hN => assumption); (case hk1 => with_unfolding_all rfl); (case hk2 => with_unfolding_all rfl); (case hk3 => with_unfolding_all rfl)))
  (k_with "exec Assign" => ((with_reducible show wpAny _ _ (exec (Stmt.Assign [Expr.Tuple _ _ _] _ _) _) _ _ _); (fail_if_success (have : GoOn := by assumption)); (refine stuck_at ?_)))
  (k_with "subscriptTail" => ((with_reducible show wpAny _ _ (subscriptTail (PySem.Expr.List _ _) _ _ _) _ _ _); k_dflt (refine kba_turn (value' := PySem.Expr.Name (PySem.Str.ofString "_") ⟨0, 0, 0, 0⟩) (fun _ => rfl) ?_); (refine stuck_at ?_)))
  (k_with "subscriptTail Name UnaryOp ref int" => (k_here; (with_reducible show wpAny _ _ (subscriptTail _ _ (Value.ref _) (Value.int _ _)) _ _ _); k_dflt (refine' item_snoc ?k1 ?k2 ?k3 ?_; (case k1 => k_asm); (case k2 => k_mem); (case k3 => assumption); k_whole)))
  trivial
local macro_rules | `(tactic| k_all) => `(tactic| assumption)
theorem mw_L6_3 : True := by
  (k_with "call builtin:list.append" => (k_here; k_dflt (refine' app_vals ?k1 ?k2 ?k3 ?k4 ?_; (case k1 => k_asm); (case k2 => k_asm); (case k3 => first | with_reducible assumption | (simp only [List.length_append, List.length_singleton]; omega) | assumption); (case k4 => k_upd); k_whole); intro _ _ _))
  (k_with "callWith" => ((with_reducible show wpAny _ _ (callWith _ (Value.builtin _) [_] _ _) _ _ _); first | with_reducible refine callWith_method1 ?_ | with_reducible refine callWith_method0 ?_ | refine callWith_method1 ?_))
  (k_with "exec For Name Call cons nil" => (refine stuck_at ?_))
  (k_with "binaryOp Mult ref int" => (k_here; k_dflt (refine' KMa.mul (vs := [_]) (ws := [_, _]) ?u1 ?u2 ?u3 ?u4 ?u5 ?u6 ?u7 ?_; (case u1 => k_asm); (case u2 => k_asm); (case u3 => exact lst_at (by assumption) (List.Mem.head _)); (case u4 => decide); (case u5 => decide); (case u6 => exact Nat.le_of_ble_eq_true rfl); (case u7 => rfl); k_whole); intro _ _ _ _ l1; (try k_lt l1); (try (revert l1; intro _))))
  (k_with "call builtin:len" => (k_here; k_dflt (refine' len_vals ?u1 ?u2 ?u3 ?_; (case u1 => k_asm); (case u2 => first | k_mem | assumption | exact .tail _ (by assumption) | exact .tail _ (.tail _ (by assumption))); (case u3 => first | assumption | omega); k_whole)))
  (k_with "call type:range" => ((with_reducible show wpAny _ _ (call _ [_]) _ _ _); k_dflt (refine' range1_rows ?u1 ?u2 ?_; (case u1 => k_asm); (case u2 => k_asm); k_whole); intro _ _ _ _ _ _ _ _ _))
  (k_with "CompSrc" => (refine stuck_at ?_))
  (k_with "eval ListComp" => (k_here; k_dflt (refine LCg.ListComp_U (F₀ := by k_asm) (by rfl) (by decide) (by rfl) (by decide) (by rfl) ?_)))
  (k_with "eval ListComp" => ((with_reducible show wpAny _ _ (eval (Expr.ListComp (Expr.Call (Expr.Name _ _) _ _ _) _ _ _) _) _ _ _); (refine stuck_at ?_)))
  (k_with "pyIter ref" => ((with_reducible show wpAny _ _ (pyIter _) (fun _ _ => LoopAtV _ _ _ _ _ _ _ _ _ _ _) _ _); (refine stuck_at ?_)))
  (k_with "subscriptTail Name BinOp ref int" => (refine stuck_at ?_))
  (k_with "subscriptTail Name Name ref int" => (refine stuck_at ?_))
  (k_with "call builtin:str.join" => (k_here; k_dflt (refine' join_listW ?u1 ?u2 ?u3 ?u4 ?_; (case u1 => exact News.isList (by k_asm) (by k_mem)); (case u2 => (with_reducible assumption)); (case u3 => decide +kernel); (case u4 => omega); k_whole); intro _ _))
  (k_with "subscriptTail Name Constant ref int" => (k_here; (with_reducible show wpAny _ _ (subscriptTail _ _ (Value.ref _) (Value.int _ _)) _ _ _); k_dflt (first
  | (refine' item_vals (vs := [_, _]) 0 ?u1 ?u2 ?u3 ?u4 ?u5 ?_; (case u1 => k_asm); (case u2 => assumption); (case u3 => rfl); (case u4 => decide); (case u5 => rfl); k_whole)
  | (refine' item_vals (vs := [_, _]) 1 ?u1 ?u2 ?u3 ?u4 ?u5 ?_; (case u1 => k_asm); (case u2 => assumption); (case u3 => rfl); (case u4 => decide); (case u5 => rfl); k_whole)); (try dsimp only)))
  (k_with "InvEndN" => (refine stuck_at ?_))
  (k_with "compareOp NotEq ref ref" => (refine stuck_at ?_))
  (k_with "binaryOp Add str str" => (k_here; k_dflt (refine' KOpn.add ?u1 ?_; (case u1 => assumption); k_whole); intro _ _ _))
  trivial
local macro_rules | `(tactic| kn_posts) => `(tactic| (refine kn_postA (by assumption) (fun _ _ => rfl) ?_))
/-- the law's end -/
noncomputable def LawEnd (G : Heap) (L0 : Addr) (o : OsState) (f : Flow) (s' : Shared) : Prop := f = .ret (.bool true) ∧ Bare o s' ∧ ∃ m tb, Fr G L0 s'.heap m ∧ News G L0 s'.heap [(57, tabObj tb)]
theorem law_end {G : Heap} {L0 : Addr} {o : OsState} {s' s3 : Shared} {h : Heap} {b : Bool} {m : Str → Option Value} {tb : Array Value} (hb : b = true) (hB : Bare o s3) (e1 : s'.gens = s3.gens) (e2 : s'.os = s3.os) (e3 : s'.heap = h) (F : Fr G L0 h m) (N : News G L0 h [(57, tabObj tb)]) : LawEnd G L0 o (.ret (.bool b)) s' :=
  ⟨by rw [hb], ⟨by rw [e1]; exact hB.1, by rw [e2]; exact hB.2⟩, m, tb, by rw [e3]; exact F, by rw [e3]; exact N⟩
theorem law2 (said : PySem.Challenge.rw_rx0110_02.row.wellSaid = true) : PySem.Challenge.rw_rx0110_02.row.Holds := by
  w_on
  refine holds_open (q := hd.view_39) (loose := [Str.ofString "_twin_re_1", Str.ofString "_special_chars_map"]) (Xt := fun s => xlAt hd.view_39 [] s && recOk (RowW.records (OpenRow.toRowW PySem.Challenge.rw_rx0110_02.row)) s) (XP := XL hd.view_39 []) (Yf := (kmHook hd.heap_39 hdAs hdAs_eq [57]).obs) (Ya := (kmHook hd.heap_39 hdAs hdAs_eq [57]).val) (YP := (kmHook hd.heap_39 hdAs hdAs_eq [57]).says) (N := (12 + (1 + (120 + (1253 + 1131))))) left (kmHook hd.heap_39 hdAs hdAs_eq [57]).of (kmHook hd.heap_39 hdAs hdAs_eq [57]).keeps (fun s e => xl_of s (Bool.and_eq_true_iff.mp e).1) XL.keeps (by rfl) (by rfl) (by rfl) (fun s e => recFacts_of (Bool.and_eq_true_iff.mp e).2) (by rfl) (by first | assumption | decide +kernel) (by decide +kernel) ⟨rfl, rfl, rfl, rfl, rfl, by decide +kernel⟩ ?hw ?hc
  case hw => w_witness2
  case hc =>
    clear said
    k_go0
    all_goals try k_fold
    (k_unmd)
    rename_i w0 sh0 sh1 mg mb G0 Y fa oo pm cd doc kV ho hcd hg Xm Vl Tt Bt TE TW ns hs0 hlay hL0 hr0 hl20 as1 as2 sa sv as3 hLs ra w1 r0 hIs hr1 hc1 hc2 hD1 h1 X1 T1 K1 F1 N1 l0
    have hns : ns.length ≤ 63 := by omega
    have hLg := ghost_list hT9 hLs
    with_reducible refine wpAny_mono (Q := fun f s' => LawEnd (ghostOf sh1.heap [(61, 57)]) sh1.heap.objs.size sh1.os f s') (E := fun _ _ => False) ?_ ?_ ?_
    · have hgB : AllBare sh1.gens := .of_eq hg
      generalize ghostOf sh1.heap [(61, 57)] = G at *
      generalize sh1.heap.objs.size = L0 at *
      clear hcd hD1 ho hg Xm Vl Tt Bt TE TW hs0 hlay hL0 hr0 hl20 hr1 hc1 hc2 ra w1 r0 hLs G0 Y hT8 hT9
      k_steps
      rename_i D1 ws1 h1 hI1 hC1 hL1 l1 h2 tk2 t2 h3 F1 N1
      unfold Stuck
      with_reducible refine cutK (σ := FrS) F1 (fun c : FrS => (c.U, listOf c.uv.toArray c.n) :: (57, tabObj #[]) :: []) (fun c => [(Str.ofString "front", .str c.f c.tf), (Str.ofString "root", .str c.r c.tr), (Str.ofString "ups", .ref c.U)]) [] (fun c => (@LT.lt Nat _ 57 c.U) ∧ ∃ us, frontTab[(Int.fmod (ns.take 1).sum 6).toNat]? = some (c.f, c.r, us) ∧ StrsAre c.uv us) ?_ ?_
      · intro Rc hC9
        have hgo := goOn
        walk_at "exec Assign"
        k_steps
        unfold Stuck
        have h60 : 0 ≤ (ns.take 1).sum.fmod 6 := Int.fmod_nonneg_of_pos _ (by decide)
        have h66 : (ns.take 1).sum.fmod 6 < 6 := Int.fmod_lt_of_pos _ (by decide)
        have hk : (ns.take 1).sum.fmod 6 = 0 ∨ (ns.take 1).sum.fmod 6 = 1 ∨ (ns.take 1).sum.fmod 6 = 2 ∨ (ns.take 1).sum.fmod 6 = 3 ∨ (ns.take 1).sum.fmod 6 = 4 ∨ (ns.take 1).sum.fmod 6 = 5 := by omega
        rcases hk with hk | hk | hk | hk | hk | hk
        · with_reducible refine item_vals 0 (by assumption) (List.Mem.head _) (by omega) (by decide) rfl ?_
          (k_unmd)
          k_steps
          all_goals (try (exact trivial))
          with_reducible refine hC9 _ ?_
          walk_at "Mfr"
          (case hm => k_mem)
          (case hm2 => k_mem)
          (case hne => walk_at "Mright")
          (case hq => rw [hk]; rfl)
          (case hu => exact .cons _ _ .nil)
          (case hz => intro z h1 h2 h3; ((try dsimp only [kstB]); repeat (first | rfl | (refine (if_neg (by simp [h1, h2, h3])).trans ?_))))
        · with_reducible refine item_vals 1 (by assumption) (List.Mem.head _) (by omega) (by decide) rfl ?_
          (k_unmd)
          k_steps
          all_goals (try (exact trivial))
          with_reducible refine hC9 _ ?_
          walk_at "Mfr"
          (case hm => k_mem)
          (case hm2 => k_mem)
          (case hne => walk_at "Mright")
          (case hq => rw [hk]; rfl)
          (case hu => exact .nil)
          (case hz => intro z h1 h2 h3; ((try dsimp only [kstB]); repeat (first | rfl | (refine (if_neg (by simp [h1, h2, h3])).trans ?_))))
        · with_reducible refine item_vals 2 (by assumption) (List.Mem.head _) (by omega) (by decide) rfl ?_
          (k_unmd)
          k_steps
          all_goals (try (exact trivial))
          with_reducible refine hC9 _ ?_
          walk_at "Mfr"
          (case hm => k_mem)
          (case hm2 => k_mem)
          (case hne => walk_at "Mright")
          (case hq => rw [hk]; rfl)
          (case hu => exact .nil)
          (case hz => intro z h1 h2 h3; ((try dsimp only [kstB]); repeat (first | rfl | (refine (if_neg (by simp [h1, h2, h3])).trans ?_))))
        · with_reducible refine item_vals 3 (by assumption) (List.Mem.head _) (by omega) (by decide) rfl ?_
          (k_unmd)
          k_steps
          all_goals (try (exact trivial))
          with_reducible refine hC9 _ ?_
          walk_at "Mfr"
          (case hm => k_mem)
          (case hm2 => k_mem)
          (case hne => walk_at "Mright")
          (case hq => rw [hk]; rfl)
          (case hu => exact .nil)
          (case hz => intro z h1 h2 h3; ((try dsimp only [kstB]); repeat (first | rfl | (refine (if_neg (by simp [h1, h2, h3])).trans ?_))))
        · with_reducible refine item_vals 4 (by assumption) (List.Mem.head _) (by omega) (by decide) rfl ?_
          (k_unmd)
          k_steps
          all_goals (try (exact trivial))
          with_reducible refine hC9 _ ?_
          walk_at "Mfr"
          (case hm => k_mem)
          (case hm2 => k_mem)
          (case hne => walk_at "Mright")
          (case hq => rw [hk]; rfl)
          (case hu => exact .nil)
          (case hz => intro z h1 h2 h3; ((try dsimp only [kstB]); repeat (first | rfl | (refine (if_neg (by simp [h1, h2, h3])).trans ?_))))
        · with_reducible refine item_vals 5 (by assumption) (List.Mem.head _) (by omega) (by decide) rfl ?_
          (k_unmd)
          k_steps
          all_goals (try (exact trivial))
          with_reducible refine hC9 _ ?_
          walk_at "Mfr"
          (case hm => k_mem)
          (case hm2 => k_mem)
          (case hne => walk_at "Mright")
          (case hq => rw [hk]; rfl)
          (case hu => exact .cons _ _ (.cons _ _ .nil))
          (case hz => intro z h1 h2 h3; ((try dsimp only [kstB]); repeat (first | rfl | (refine (if_neg (by simp [h1, h2, h3])).trans ?_))))
      · intro c u h tk hP F2 N2
        obtain ⟨f, r, tf, tr, U, uv, nU⟩ := c
        refine Classical.byContradiction fun hng9 => ?_
        obtain ⟨hU, us, hfr, hus⟩ := hP
        refine hng9 ?_
        clear hng9
        dsimp only at hU hfr hus F2 N2
        (k_unmd)
        k_steps
        unfold Stuck
        k_dflt (refine' @DoesP.use _ _ _ _ _ _ _ _ _ _ _ _ _ _ _ _ _ _ _ _ _ _ _ _ _ _ _ _ _ _ _ ?k0 ?k1 ?k2 ?k3 ?k4 ?k5 ?k6 ?k7 ?k8 ?k9 ?_)
        (case k9 => exact rows_does _ _ _ _ _ sa sv ns hIs (by omega))
        (case k0 => exact hLg)
        walk_at "Muse"
        intro n' r' h4 tk4 hR F3 N3
        refine Classical.byContradiction fun hng9 => ?_
        obtain ⟨R, refs, kR, Lr, its, kL, rest, dn, last, rfl, rfl, hrows, hits, hrf, hsub, hoff, hLR⟩ := hR
        refine hng9 ?_
        clear hng9
        have hRI : RowsI (dn ++ [last]) := by rw [hrf]; exact rowsF_I (by rw [List.length_take]; omega)
        have hsum : (dn ++ [last]).length ≤ 13 := by have := hRI.len; omega
        have hrl : refs.length ≤ 1000000 := by
          rw [hrows.len]
          rw [List.length_append] at hsum
          omega
        have hil : its.length ≤ 1000000 := by
          rw [hits.len]
          have := (hRI.all last (by simp)).2.2
          omega
        have hLall : ∀ p ∈ rest, p.1 ≠ Lr := fun p hp => (hoff p hp).2
        have hLR9 : @Ne Nat R Lr := fun e => hLR e.symm
        (k_unmd)
        k_steps
        unfold Stuck
        have hq0 : 0 ≤ ((ns.take 1).sum.fdiv 42).fmod 4 := Int.fmod_nonneg_of_pos _ (by decide)
        have hq4 : ((ns.take 1).sum.fdiv 42).fmod 4 < ((tailTab.length : Nat) : Int) := Int.fmod_lt_of_pos _ (by decide)
        with_reducible refine item_sel (ys := tailTab) (by assumption) (List.Mem.head _) (.cons _ _ (.cons _ _ (.cons _ _ (.cons _ _ .nil)))) hq0 hq4 (by decide) ?_
        intro t5
        (try dsimp only)
        (k_unmd)
        k_steps
        rename_i Dd hA lA hB tA hC tB Tl hD lD Tx hE lE Di hF lF hG tC Pp hH lH hJ F5 N5
        unfold Stuck
        have htT : tailTab.getD ((ns.take 1).sum.fdiv 42 |>.fmod 4).toNat (Str.ofString "") ∈ tailTab := by
          have hz : ((ns.take 1).sum.fdiv 42 |>.fmod 4).toNat < tailTab.length := (Int.toNat_lt hq0).mpr hq4
          rw [List.getD, List.getElem?_eq_getElem hz]
          exact List.getElem_mem hz
        generalize htx : tailTab.getD ((ns.take 1).sum.fdiv 42 |>.fmod 4).toNat (Str.ofString "") = tx at *
        obtain ⟨bs, hbs⟩ : ∃ bs : List (Addr × Obj), bs = (Di, listOf #[Value.str tx t5, Value.str tx t5] 0) :: (R, listOf (refs ++ [Value.ref Lr]).toArray kR) :: (Lr, listOf (its ++ [Value.ref Di]).toArray (kL + 1)) :: rest := ⟨_, rfl⟩
        have N6 : News G L0 hJ ((Pp, listOf [Value.str f tf].toArray 0) :: bs) := by
          rw [hbs]
          intro p hp
          refine N5 p ?_
          rcases List.mem_cons.mp hp with rfl | hp
          · exact .head _
          · rcases List.mem_cons.mp hp with rfl | hp
            · exact .tail _ (.head _)
            · exact .tail _ (.tail _ (.tail _ (.tail _ hp)))
        have hoffP : ∀ q ∈ bs, q.1 ≠ Pp := by rw [hbs]; exact allLt_ne (l := (_, _) :: (_, _) :: (_, _) :: rest) ⟨lH.1, lH.2.2.2.1, lH.2.2.2.2.1, lH.2.2.2.2.2⟩
        have hmR : (R, listOf (refs ++ [Value.ref Lr]).toArray kR) ∈ bs := by rw [hbs]; exact .tail _ (.head _)
        have hrest : ∀ q ∈ rest, q ∈ bs := fun q hq => by rw [hbs]; exact .tail _ (.tail _ (.tail _ hq))
        have hmD := hrest _ (hsub _ (List.Mem.head _))
        have hmU := hrest _ (hsub _ (.tail _ (List.Mem.head _)))
        have hm57 := hrest _ (hsub _ (.tail _ (.tail _ (List.Mem.head _))))
        have hrowsA : RowsAt bs (refs ++ [Value.ref Lr]) (dn ++ [last ++ [(tx, tx)]]) := (hrows.mono hrest).snoc (by rw [hbs]; exact .tail _ (.tail _ (.head _))) ((hits.mono hrest).snoc (by rw [hbs]; exact .head _))
        clear hbs N5
        have hLI : LastI (dn ++ [last ++ [(tx, tx)]]) := lastI_of hRI htT
        have hB : RowsB (dn ++ [last ++ [(tx, tx)]]) := lastI_B hLI
        generalize hra : dn ++ [last ++ [(tx, tx)]] = rowsA at *
        generalize hrv : refs ++ [Value.ref Lr] = rv at *
        have hrvl : rv.length ≤ 300 := by have := hB.1; rw [hrowsA.len]; omega
        with_reducible refine' For_invVF (_F := ?kF) (hx := ?kx) (hp := ?kp) (h := ?kh) (hs := ?ks) (hE := ?kE)
        (case kF => exact F5)
        (case kx => rfl)
        (case kp => rfl)
        (case ks => intro _; rfl)
        (case kE => exact PassesOwn.never)
        (k_unmd)
        k_steps
        rename_i hK tkK tK uK vK RK FK NK kK
        unfold Stuck
        with_reducible refine' kst_range (σ := PaS) (fun c => (Pp, listOf c.vs.toArray c.n) :: bs) (fun _ => []) (fun _ => True) [] (fun pre c => StrsAre c.vs (partsN ns f rowsA pre.length)) ⟨[Value.str f tf], 0⟩ ?r1 ?r2 ?r3 ?r4 ?r5 ?r6 ?r7 ?r8 ?r9 ?turn ?done
        (case r2 => exact RK)
        (case r1 => rfl)
        (case r3 => exact small_one (by omega) (by omega) (by omega) (by omega))
        (case r4 => exact rangeSize_nat _ _)
        (case r5 => exact FK)
        (case r6 => exact NK)
        (case r7 => trivial)
        (case r8 => exact fun _ h => nomatch h)
        (case r9 => exact .cons _ _ .nil)
        (case turn =>
          intro c pre k tk9 u9 h9 tkk own hk9 hpre hoff9 _ hP9 F9 N9
          obtain ⟨pv, pn⟩ := c
          simp only [List.cons_append, kstB] at F9 N9
          dsimp only at hP9 N9
          (k_unmd)
          k_steps
          unfold Stuck
          rename_i De dv hX F10 N10 hI10 hC10 hD10 l10
          have ek : k = (pre.length : Int) := by omega
          subst ek
          have eys : List.take (min ((pre.length : Int) + 2).toNat ns.length - ((pre.length : Int) + 1).toNat) (List.drop ((pre.length : Int) + 1).toNat ns) = (ns.drop (pre.length + 1)).take 1 := by
            exact cut_mid ns (pre.length + 1) 1
          rw [eys] at hI10
          have hdl := hI10.length
          have hel : ((ns.drop (pre.length + 1)).take 1).length ≤ 1 := List.length_take_le _ _
          generalize hdx : (ns.drop (pre.length + 1)).take 1 = dx at *
          with_reducible refine' CompSrc.ledger ?q1 F10 N10 (List.Mem.head _) ?q2 ?q3
          (case q1 => rfl)
          (case q2 => rw [List.size_toArray, sizeLine_eq]; omega)
          (case q3 =>
            intro g9
            with_reducible refine' comp_map (fun i y => ∃ u, y = Value.int ((dx.getD i 0).fdiv 80) u) (src_in (List.Mem.head _)) ?q4 ?q5
            (case q4 =>
              intro i zs v I oI C oC D2 m2 h2 tk2 E2 hi hv hC hx2 F2 N2 off ne
              refine Classical.byContradiction fun hng9 => ?_
              obtain ⟨x, tx, rfl, hx⟩ := ints_item hI10 i v (by simpa using hv)
              refine hng9 ?_
              clear hng9
              have hxd : dx.getD i 0 = x := by simp [List.getD, hx]
              (try k_unmd)
              (try k_fold)
              k_steps
              all_goals first | assumption | (rw [hxd]))
            (case q5 =>
              intro zs hzl hzr
              have hIz : IntsAre zs (dx.map fun x => x.fdiv 80) := by
                refine ints_of (by rw [hzl, List.size_toArray, List.length_map, hdl]) fun i v hi => ?_
                obtain ⟨u, rfl⟩ := hzr i v hi
                have hlt : i < dx.length := by have := (List.getElem?_eq_some_iff.mp hi).1; rw [hzl, List.size_toArray, hdl] at this; exact this
                refine ⟨_, u, ?_, rfl⟩
                rw [List.getElem?_map, List.getElem?_eq_getElem hlt]
                simp [List.getD, hlt]
              have hallP : ∀ p ∈ bs ++ own, p.1 ≠ Pp := fun p hp => (List.mem_append.mp hp).elim (hoffP p) fun h => hoff9 p h Pp (.head _)
              unfold FinE
              intro D3 h3 tk3 F3 N3 o3
              dsimp only
              (k_unmd)
              k_steps
              unfold Stuck
              rename_i hS tkS tS FS NS
              have N11 : News G L0 hS ((Pp, listOf pv.toArray pn) :: (bs ++ own)) := fun p hp => NS p (.tail _ (.tail _ hp))
              clear NS N3
              have hi0 : 0 ≤ ((dx.map fun x => x.fdiv 80).sum + (pre.length : Int)).fmod 7 := Int.fmod_nonneg_of_pos _ (by decide)
              have hi7 : ((dx.map fun x => x.fdiv 80).sum + (pre.length : Int)).fmod 7 < ((detourTab.length : Nat) : Int) := Int.fmod_lt_of_pos _ (by decide)
              with_reducible refine item_sel (ys := detourTab) N11 (List.Mem.tail _ (List.mem_append.mpr (.inl hmD))) (.cons _ _ (.cons _ _ (.cons _ _ (.cons _ _ (.cons _ _ (.cons _ _ (.cons _ _ .nil))))))) hi0 hi7 (by decide) ?_
              intro t8
              have hpvl : pv.length ≤ 1000000 := by rw [hP9.len_eq]; exact Nat.le_trans (partsN_len _ _ _ _ (by omega)) (by decide)
              (try dsimp only)
              (k_unmd)
              k_steps
              unfold Stuck
              rename_i hT FT NT
              have hprl : pre.length < rv.length := by omega
              refine Classical.byContradiction fun hng9 => ?_
              obtain ⟨Dr, nr, vr, row, hvr, hrow, hmr, hir⟩ := hrowsA.at pre.length _ (List.getElem?_eq_getElem hprl)
              refine hng9 ?_
              clear hng9
              have hmem : row ∈ rowsA := List.mem_of_getElem? hrow
              with_reducible refine item_vals pre.length NT (List.Mem.tail _ (List.mem_append.mpr (.inl hmR))) rfl (by omega) ((List.getElem?_eq_getElem hprl).trans (congrArg some hvr)) ?_
              (try dsimp only)
              (k_unmd)
              k_steps
              unfold Stuck
              have hjl := (rowsB_sum hB hmem).1
              with_reducible refine' CompSrc.ledger ?q1 FT NT (List.Mem.tail _ (List.mem_append.mpr (Or.inl hmr))) ?q2 ?q3
              (case q1 => rfl)
              (case q2 => rw [List.size_toArray, sizeLine_eq, hir.len]; have := (hB.2 row hmem).1; omega)
              (case q3 =>
                intro g9
                with_reducible refine' comp_map (fun i y => ∃ u, y = Value.str ((row.getD i (Str.ofString "", Str.ofString "")).1) u) (src_in (List.Mem.tail _ (List.mem_append.mpr (Or.inl hmr)))) ?q4 ?q5
                (case q4 =>
                  intro i zs v I oI C oC D2 m2 h2 tk2 E2 hi hv hC hx2 F2 N2 off ne
                  refine Classical.byContradiction fun hng9 => ?_
                  obtain ⟨Di9, pi9, qi9, ti9, ui9, ni9, rfl, hri, hmi⟩ := hir.at i v (by simpa using hv)
                  refine hng9 ?_
                  clear hng9
                  have hmi2 : (Di9, listOf #[.str pi9 ti9, .str qi9 ui9] ni9) ∈ (I, oI) :: (C, oC) :: (D2, lst zs) :: (Pp, listOf (pv ++ [Value.str (detourTab.getD (((dx.map fun x => x.fdiv 80).sum + (pre.length : Int)).fmod 7).toNat (Str.ofString "")) t8]).toArray (pn + 1)) :: (bs ++ own) := .tail _ (.tail _ (.tail _ (.tail _ (List.mem_append.mpr (.inl hmi)))))
                  have hxd : (row.getD i (Str.ofString "", Str.ofString "")).1 = pi9 := by simp [List.getD, hri]
                  (try k_unmd)
                  (try k_fold)
                  k_steps
                  all_goals first | assumption | (rw [hxd]))
                (case q5 =>
                  intro ys hyl hyr
                  have hS : StrsAre ys (row.map (·.1)) := by
                    refine strs_at (by rw [hyl, List.size_toArray, List.length_map, hir.len]) fun i v hi => ?_
                    obtain ⟨u, rfl⟩ := hyr i v hi
                    have hlt : i < row.length := by have := (List.getElem?_eq_some_iff.mp hi).1; rw [hyl, List.size_toArray, hir.len] at this; exact this
                    refine ⟨_, u, ?_, rfl⟩
                    rw [List.getElem?_map, List.getElem?_eq_getElem hlt]
                    simp [List.getD, hlt]
                  unfold FinE
                  intro D4 h4' tk4' F4 N4 o4
                  dsimp only
                  have o41 : @Ne Nat D4 Pp := Ne.symm o4.1
                  (k_unmd)
                  k_steps
                  unfold Stuck
                  rename_i t9 k9 hU9 FE NE
                  rw [List.push_toArray] at NE
                  with_reducible refine' pa_end (g := partsN ns f rowsA) (vs := pv ++ [Value.str (detourTab.getD (((dx.map fun x => x.fdiv 80).sum + (pre.length : Int)).fmod 7).toNat (Str.ofString "")) t8] ++ [Value.str (Txt.join (Str.ofString "") (row.map (·.1))) t9]) ?e1 ?e2 ?e3 ?e4 ?e5 ?e6
                  (case e1 => exact FE)
                  (case e2 => exact NE)
                  (case e3 => exact fun p hp => (List.mem_cons.mp hp).elim (fun e => e ▸ List.Mem.tail _ (List.Mem.head _)) fun h => List.Mem.tail _ (List.Mem.tail _ (List.mem_append.mpr (.inl h))))
                  (case e4 => exact fun p hp => List.Mem.tail _ (List.Mem.tail _ (List.mem_append.mpr (.inr hp))))
                  (case e5 => intro z hz; exact (if_neg hz).trans rfl)
                  (case e6 =>
                    have ed : detF ns pre.length = detourTab.getD (((dx.map fun x => x.fdiv 80).sum + (pre.length : Int)).fmod 7).toNat (Str.ofString "") := by unfold detF; rw [hdx]
                    have er : rowsA.getD pre.length [] = row := by simp [List.getD, hrow]
                    have hZ := strs_snoc (y := Txt.join (Str.ofString "") ((rowsA.getD pre.length []).map fun x => x.1)) (t := t9) (strs_snoc (y := detF ns pre.length) (t := t8) hP9)
                    rw [List.append_assoc (partsN _ _ _ _)] at hZ
                    rw [List.length_append, List.length_singleton, ← ed, ← er]
                    exact hZ))))))
        (case done =>
          intro c u9 h9 tk9 _ hP9 F9 N9
          obtain ⟨pv, pn⟩ := c
          simp only [List.cons_append, List.nil_append, kstB] at F9 N9
          dsimp only at hP9 N9
          have eK : (rangeKs 0 ((rv.length : Int) - 0).toNat).length = rv.length := by rw [rangeKs_length]; omega
          rw [eK] at hP9
          have hpvl : pv.length ≤ 1000000 := by rw [hP9.len_eq]; exact Nat.le_trans (partsN_len _ _ _ _ (by omega)) (by decide)
          (k_unmd)
          k_steps
          unfold Stuck
          have hi0 : 0 ≤ ((ns.take 1).sum.fdiv 6).fmod 7 := Int.fmod_nonneg_of_pos _ (by decide)
          have hi7 : ((ns.take 1).sum.fdiv 6).fmod 7 < ((detourTab.length : Nat) : Int) := Int.fmod_lt_of_pos _ (by decide)
          with_reducible refine item_sel (ys := detourTab) N9 (List.Mem.tail _ hmD) (.cons _ _ (.cons _ _ (.cons _ _ (.cons _ _ (.cons _ _ (.cons _ _ (.cons _ _ .nil))))))) hi0 hi7 (by decide) ?_
          intro t8
          (try dsimp only)
          (k_unmd)
          k_steps
          unfold Stuck
          rename_i hV FV NV
          with_reducible refine' CompSrc.ledger ?q1 FV NV (List.Mem.tail _ hmR) ?q2 ?q3
          (case q1 => rfl)
          (case q2 => rw [List.size_toArray, sizeLine_eq]; omega)
          (case q3 =>
            intro g9
            with_reducible refine' comp_map (fun i y => ∃ u, y = Value.str (Txt.join (Str.ofString "") ((rowsA.getD i []).map (·.2))) u) (src_in (List.Mem.tail _ hmR)) ?q4 ?q5
            (case q4 =>
              intro i zs v I oI C oC D2 m2 h2 tk2 E2 hi hv hC hx2 F2 N2 off ne
              refine Classical.byContradiction fun hng9 => ?_
              obtain ⟨Dr, nr, vr, row, rfl, hrow, hmr, hir⟩ := hrowsA.at i v (by simpa using hv)
              refine hng9 ?_
              clear hng9
              have hxd : rowsA.getD i [] = row := by simp [List.getD, hrow]
              have hmem : row ∈ rowsA := List.mem_of_getElem? hrow
              have hjl := (rowsB_sum hB hmem).2
              rw [hxd]
              (try k_unmd)
              (try k_fold)
              k_steps
              unfold Stuck
              with_reducible refine' CompSrc.ledger ?j1 F2 N2 (List.Mem.tail _ (List.Mem.tail _ (List.Mem.tail _ (List.Mem.tail _ hmr)))) ?j2 ?j3
              (case j1 => rfl)
              (case j2 => rw [List.size_toArray, sizeLine_eq, hir.len]; have := (hB.2 row hmem).1; omega)
              (case j3 =>
                intro g8
                with_reducible refine' comp_map (fun i y => ∃ u, y = Value.str ((row.getD i (Str.ofString "", Str.ofString "")).2) u) (src_in (List.Mem.tail _ (List.Mem.tail _ (List.Mem.tail _ (List.Mem.tail _ hmr))))) ?j4 ?j5
                (case j4 =>
                  intro i' zs' v' I' oI' C' oC' D2' m2' h2' tk2' E2' hi' hv' hC' hx2' F2' N2' off' ne'
                  refine Classical.byContradiction fun hng9 => ?_
                  obtain ⟨Di9, pi9, qi9, ti9, ui9, ni9, rfl, hri, hmi⟩ := hir.at i' v' (by simpa using hv')
                  refine hng9 ?_
                  clear hng9
                  have hmi2 := List.Mem.tail (I', oI') (List.Mem.tail (C', oC') (List.Mem.tail (D2', lst zs') (List.Mem.tail (I, oI) (List.Mem.tail (C, oC) (List.Mem.tail (D2, lst zs) (List.Mem.tail (Pp, listOf (pv ++ [Value.str (detourTab.getD (((ns.take 1).sum.fdiv 6).fmod 7).toNat (Str.ofString "")) t8]).toArray (pn + 1)) hmi))))))
                  have hxd' : (row.getD i' (Str.ofString "", Str.ofString "")).2 = qi9 := by simp [List.getD, hri]
                  (try k_unmd)
                  (try k_fold)
                  k_steps
                  all_goals first | assumption | (rw [hxd']))
                (case j5 =>
                  intro ys hyl hyr
                  have hS : StrsAre ys (row.map (·.2)) := by
                    refine strs_at (by rw [hyl, List.size_toArray, List.length_map, hir.len]) fun i v hi => ?_
                    obtain ⟨u, rfl⟩ := hyr i v hi
                    have hlt : i < row.length := by have := (List.getElem?_eq_some_iff.mp hi).1; rw [hyl, List.size_toArray, hir.len] at this; exact this
                    refine ⟨_, u, ?_, rfl⟩
                    rw [List.getElem?_map, List.getElem?_eq_getElem hlt]
                    simp [List.getD, hlt]
                  unfold FinE
                  intro D4 h4' tk4' F4 N4 o4
                  dsimp only
                  (k_unmd)
                  k_steps
                  all_goals first | exact F4 | exact fun p hp => N4 p (List.Mem.tail _ hp))))
            (case q5 =>
              intro zs hzl hzr
              have hIz : StrsAre zs (rowsA.map fun r => Txt.join (Str.ofString "") (r.map (·.2))) := by
                refine strs_at (by rw [hzl, List.size_toArray, List.length_map, hrowsA.len]) fun i v hi => ?_
                obtain ⟨u, rfl⟩ := hzr i v hi
                have hlt : i < rowsA.length := by have := (List.getElem?_eq_some_iff.mp hi).1; rw [hzl, List.size_toArray, hrowsA.len] at this; exact this
                refine ⟨_, u, ?_, rfl⟩
                rw [List.getElem?_map, List.getElem?_eq_getElem hlt]
                simp [List.getD, hlt]
              unfold FinA
              intro D3 h3 tk3 F3 N3 o3
              dsimp only
              (k_unmd)
              k_steps
              refine Classical.byContradiction fun hng9 => ?_
              obtain ⟨tq, ws, ews, hws⟩ := parts_cons (strs_snoc (y := detourTab.getD (((ns.take 1).sum.fdiv 6).fmod 7).toNat (Str.ofString "")) (t := t8) hP9)
              refine hng9 ?_
              clear hng9
              have hLP : LawP f r us (partsX ns rowsA rv.length ++ [detourTab.getD (((ns.take 1).sum.fdiv 6).fmod 7).toNat (Str.ofString "")]) rowsA := by
                rw [hrowsA.len]
                refine law_p (List.mem_of_getElem? hfr) ?_ hLI
                have hz : ((ns.take 1).sum.fdiv 6 |>.fmod 7).toNat < detourTab.length := (Int.toNat_lt hi0).mpr hi7
                rw [List.getD, List.getElem?_eq_getElem hz]
                exact List.getElem_mem hz
              generalize partsX ns rowsA rv.length ++ [detourTab.getD (((ns.take 1).sum.fdiv 6).fmod 7).toNat (Str.ofString "")] = ps at *
              k_dflt (refine' star_seq ?u1 ?u2 ?u3 ?u4 ?u5 ?u6 ?u7 ?u8 ?_)
              (case u1 => k_asm)
              (case u2 => k_asm)
              (case u3 => exact List.Mem.tail _ (List.Mem.head _))
              (case u4 => exact rfl)
              (case u5 => exact rfl)
              (case u6 => exact .inl rfl)
              (case u7 => exact ews)
              (case u8 => rw [List.size_toArray, sizeLine_eq, List.length_append, List.length_singleton]; omega)
              intro hW FW NW
              dsimp only [List.nil_append, List.cons_append]
              k_steps
              unfold Stuck
              k_dflt (refine' @Does.use _ _ _ _ _ _ _ _ _ _ _ _ _ _ _ _ _ _ _ _ _ _ _ _ _ _ _ _ _ _ ?k1 ?k2 ?k3 ?k4 ?k5 ?k6 ?k7 ?k8 ?k9 ?_)
              (case k9 => exact join_does _ _ _ _ _ f tq ws ps hws hLP.jl)
              walk_at "Muse"
              intro n1 r1 h1' tk1 hR1 F1' N1'
              refine Classical.byContradiction fun hng9 => ?_
              obtain ⟨rfl, ut, rfl⟩ := hR1
              refine hng9 ?_
              clear hng9
              k_steps
              unfold Stuck
              k_dflt (refine' @Does.use _ _ _ _ _ _ _ _ _ _ _ _ _ _ _ _ _ _ _ _ _ _ _ _ _ _ _ _ _ _ ?k1 ?k2 ?k3 ?k4 ?k5 ?k6 ?k7 ?k8 ?k9 ?_)
              (case k9 => exact normpath_does _ _ _ _ _ _ ut hLP.pl)
              walk_at "Muse"
              intro n1 r1 h1'' tk1' hR1 F1'' N1''
              refine Classical.byContradiction fun hng9 => ?_
              obtain ⟨rfl, ut', rfl⟩ := hR1
              refine hng9 ?_
              clear hng9
              rw [hLP.np]
              (k_unmd)
              k_steps
              unfold Stuck
              k_dflt (refine' @Does.use _ _ _ _ _ _ _ _ _ _ _ _ _ _ _ _ _ _ _ _ _ _ _ _ _ _ _ _ _ _ ?k1 ?k2 ?k3 ?k4 ?k5 ?k6 ?k7 ?k8 ?k9 ?_)
              (case k9 => exact tails_does _ _ _ _ _ _ ut' _ hLP.tl (by have := hLP.ul; have := hB.1; simp only [List.length_cons, List.length_append, pats, List.length_map]; omega) hLP.sl)
              walk_at "Muse"
              intro n1 r1 h2' tk2' hR1 F2' N2'
              refine Classical.byContradiction fun hng9 => ?_
              obtain ⟨DT, tv, nT, rfl, rfl, hT, hTlt⟩ := hR1
              refine hng9 ?_
              clear hng9
              have huv : uv.length ≤ 1000000 := by rw [hus.len_eq]; have := hLP.ul; omega
              have htv : tv.length ≤ 1000000 := by rw [hT.len_eq]; have := hLP.ul; have := hB.1; simp only [List.length_cons, List.length_append, pats, List.length_map]; omega
              have hmU3 := List.Mem.tail (DT, listOf tv.toArray nT) (List.Mem.tail (D3, lst zs) (List.Mem.tail (Pp, listOf (pv ++ [Value.str (detourTab.getD (((ns.take 1).sum.fdiv 6).fmod 7).toNat (Str.ofString "")) t8]).toArray (pn + 1)) hmU))
              (k_unmd)
              k_steps
              have eS : slicePick tv.toArray none (some ((uv.length : Int) + 1)) none = (tv.take (uv.length + 1)).toArray := up_vals tv (uv.length + 1)
              rename_i hX lX hY FX NX lX2
              rw [eS] at NX
              k_dflt (refine' add_vals (vs := [Value.str r tr]) (ws := uv) ?u1 ?u2 ?u3 ?u4 ?u5 ?_)
              (case u1 => k_asm)
              (case u2 => k_asm)
              (case u3 => exact List.Mem.head _)
              (case u4 => exact List.Mem.tail _ (List.Mem.tail _ hmU3))
              (case u5 => rw [List.length_singleton, hus.len_eq]; have := hLP.ul; omega)
              intro DA hA FA NA lA
              dsimp only
              k_steps
              unfold Stuck
              k_dflt (refine' ne_strs ?u1 ?u2 ?u3 ?u4 ?u5 ?u6 ?_)
              (case u1 => k_asm)
              (case u2 => exact List.Mem.tail _ (List.Mem.tail _ (List.Mem.head _)))
              (case u3 => exact hT.take' _)
              (case u4 => exact List.Mem.head _)
              (case u5 => exact .cons _ _ hus)
              (case u6 => show callerA.units + 3 < cLine; have := cLine_is; rw [units_caller]; omega)
              have NB : News G L0 hA ((DT, listOf tv.toArray nT) :: (D3, lst zs) :: (Pp, listOf (pv ++ [Value.str (detourTab.getD (((ns.take 1).sum.fdiv 6).fmod 7).toNat (Str.ofString "")) t8]).toArray (pn + 1)) :: bs) := fun p hp => NA p (List.Mem.tail _ (List.Mem.tail _ (List.Mem.tail _ hp)))
              clear NA NX lA lX2
              have eN : (!((r :: (us ++ pats rowsA)).take (uv.length + 1) == r :: us)) = false := by rw [hus.len_eq]; simp
              rw [eN]
              (k_unmd)
              k_steps
              unfold Stuck
              k_dflt (refine listComp_G (F₀ := by k_asm) (by rfl) (by decide) (by rfl) (by decide) (by rfl) ?_)
              k_steps
              rename_i tkS hS FS NS
              dsimp only at NS
              (try dsimp only)
              generalize hSL : hA.objs.size + 1 = SL at *
              have eS2 : slicePick tv.toArray (some ((uv.length : Int) + 1)) none none = (tv.drop (uv.length + 1)).toArray := from_vals tv (uv.length + 1)
              rw [eS2] at NS
              have NS2 : News G L0 hS ((SL, listOf (tv.drop (uv.length + 1)).toArray 0) :: (DT, listOf tv.toArray nT) :: (D3, lst zs) :: (Pp, listOf (pv ++ [Value.str (detourTab.getD (((ns.take 1).sum.fdiv 6).fmod 7).toNat (Str.ofString "")) t8]).toArray (pn + 1)) :: bs) := NS
              clear NS
              have hm57' := List.Mem.tail (DT, listOf tv.toArray nT) (List.Mem.tail (D3, lst zs) (List.Mem.tail (Pp, listOf (pv ++ [Value.str (detourTab.getD (((ns.take 1).sum.fdiv 6).fmod 7).toNat (Str.ofString "")) t8]).toArray (pn + 1)) hm57))
              have hSL57 : @Ne Nat SL 57 := by
                have h9 : @LT.lt Nat _ 57 hA.objs.size := Heap.lt_size (NB _ hm57').1
                rw [← hSL]
                exact Nat.ne_of_gt (Nat.lt_succ_of_lt h9)
              have hD357 : @Ne Nat D3 57 := fun e => (off1_mem o3 _ (.tail _ hm57)) e.symm
              have eDr : (r :: (us ++ pats rowsA)).drop (uv.length + 1) = pats rowsA := by rw [hus.len_eq]; simp
              have hps2 : StrsAre (tv.drop (uv.length + 1)) (pats rowsA) := by rw [← eDr]; exact hT.drop' _
              have hpsl : (pats rowsA).length = rowsA.length := by unfold pats; rw [List.length_map]
              have hsgl : (sigs rowsA).length = (pats rowsA).length := by unfold sigs pats; rw [List.length_map, List.length_map]
              have hrow13 := hB.1
              have hIz' : StrsAre zs (sigs rowsA) := hIz
              clear hIz NB FA hT hTlt
              with_reducible refine' read_src (o := sh1.os) (posL := posL) (qual := Str.ofString "_translate.<locals>.<lambda>") (rest9 := [(SL, listOf (tv.drop (uv.length + 1)).toArray 0), (D3, lst zs), (U, listOf uv.toArray nU)]) (tb0 := #[]) (ps := pats rowsA) (zs := sigs rowsA) ?r0 FS NS2 ?r1 (List.Mem.head _) ?r2 (List.Mem.tail _ hm57') ?r3 ?r4 ?r5 hps2 hsgl ?r6 ?r7
              (case r0 => rfl)
              (case r1 => rw [sizeLine_eq, List.length_drop]; omega)
              (case r2 =>
                intro p hp
                simp only [List.mem_cons, List.not_mem_nil, or_false] at hp
                rcases hp with rfl | rfl | rfl
                · exact .head _
                · exact .tail _ (.tail _ (.head _))
                · exact .tail _ hmU3)
              (case r3 =>
                intro p hp
                simp only [List.mem_cons, List.not_mem_nil, or_false] at hp
                rcases hp with rfl | rfl | rfl
                · exact hSL57
                · exact hD357
                · exact Nat.ne_of_gt hU)
              (case r4 => exact ⟨hgB, rfl⟩)
              (case r5 => exact ⟨True.intro, .inl rfl⟩)
              (case r6 =>
                intro i p t y tb ex ys I oI C oC D m₂ s₂ E' hp hy hB2 hC hx F2 N2 off ne hN hoff57 hT2
                have hi : i < rowsA.length := by rw [← hpsl]; exact (List.getElem?_eq_some_iff.mp hp).1
                have hip : i < (pats rowsA).length := by rw [hpsl]; exact hi
                have his : i < (sigs rowsA).length := by rw [hsgl]; exact hip
                refine Classical.byContradiction fun hng9 => ?_
                obtain ⟨hpl9, fin, hfin, hrd⟩ := hLP.rd i hi
                refine hng9 ?_
                clear hng9
                have ep : (pats rowsA).getD i (Str.ofString "") = p := by simp [List.getD, hp]
                have ey : (sigs rowsA).getD i (Str.ofString "") = y := by simp [List.getD, hy]
                rw [ep] at hpl9 hfin
                rw [ey] at hrd
                (try k_unmd)
                (try k_fold)
                k_steps
                unfold Stuck
                k_dflt (refine' @DoesG.use _ _ _ _ _ _ _ _ _ _ _ _ _ _ _ _ _ _ _ _ _ _ _ _ _ _ _ _ _ _ _ ?k1 ?k2 ?k3 ?k4 ?k5 ?k6 ?k7 ?k8 ?k9 ?_ ?k10)
                (case k9 => exact read_does _ _ _ _ _ tb p t hpl9 hoff57 fin y hfin hrd hT2)
                (case k10 => exact hB2)
                walk_at "Muse"
                intro n1 r1 s3 hR hB3 F3 N3
                refine Classical.byContradiction fun hng9 => ?_
                obtain ⟨tb', ex', rfl, hT3, hex3, u, rfl⟩ := hR
                refine hng9 ?_
                clear hng9
                exact ⟨tb', ex', u, rfl, hB3, F3, N3, hT3, hex3⟩)
              (case r7 =>
                intro ys DY tb ex s₂ hS2 hB2 F2 N2 hT2 hex off
                (try k_unmd)
                k_steps
                unfold Stuck
                k_dflt (refine' ne_strs ?u1 ?u2 ?u3 ?u4 ?u5 ?u6 ?_)
                (case u1 => exact N2)
                (case u2 => exact List.Mem.head _)
                (case u3 => exact hS2)
                (case u4 => exact .tail _ (.tail _ (List.mem_append.mpr (.inr (.tail _ (.head _))))))
                (case u5 => exact hIz')
                (case u6 => show callerA.units + 3 < cLine; have := cLine_is; rw [units_caller]; omega)
                have eE : (!(sigs rowsA == sigs rowsA)) = false := by simp
                rw [eE]
                have N3 : News G L0 s₂.heap ((57, tabObj tb) :: (ex ++ [(SL, listOf (tv.drop (uv.length + 1)).toArray 0), (D3, lst zs), (U, listOf uv.toArray nU)])) := fun p hp => N2 p (.tail _ hp)
                have hoff57 : ∀ q ∈ ex ++ [(SL, listOf (tv.drop (uv.length + 1)).toArray 0), (D3, lst zs), (U, listOf uv.toArray nU)], q.1 ≠ 57 := by
                  intro q hq
                  rcases List.mem_append.mp hq with hq | hq
                  · exact hex q hq
                  · simp only [List.mem_cons, List.not_mem_nil, or_false] at hq
                    rcases hq with rfl | rfl | rfl
                    · exact hSL57
                    · exact hD357
                    · exact Nat.ne_of_gt hU
                (k_unmd)
                k_steps
                unfold Stuck
                refine Classical.byContradiction fun hng9 => ?_
                obtain ⟨fin, hfin, hrd⟩ := hLP.rs
                refine hng9 ?_
                clear hng9
                k_dflt (refine' @DoesG.use _ _ _ _ _ _ _ _ _ _ _ _ _ _ _ _ _ _ _ _ _ _ _ _ _ _ _ _ _ _ _ ?k1 ?k2 ?k3 ?k4 ?k5 ?k6 ?k7 ?k8 ?k9 ?_ ?k10)
                (case k9 => exact read_does _ _ _ _ _ tb _ ut' hLP.sl hoff57 fin _ hfin hrd hT2)
                (case k10 => exact hB2)
                walk_at "Muse"
                intro n1 r1 s3 hR hB3 F3 N3
                refine Classical.byContradiction fun hng9 => ?_
                obtain ⟨tb', ex', rfl, hT3, hex3, u, rfl⟩ := hR
                refine hng9 ?_
                clear hng9
                have hUN : StrsAre (uv ++ zs) (us ++ sigs rowsA) := hus.append' hIz'
                have hsj := hLP.sj
                have hrrl := hLP.rrl
                (k_unmd)
                k_steps
                k_dflt (refine' add_vals ?u1 ?u2 ?u3 ?u4 ?u5 ?_)
                (case u1 => exact F3)
                (case u2 => exact N3)
                (case u3 => exact .tail _ (List.mem_append.mpr (.inr (List.mem_append.mpr (.inr (.tail _ (.tail _ (.head _))))))))
                (case u4 => exact .tail _ (List.mem_append.mpr (.inr (List.mem_append.mpr (.inr (.tail _ (.head _)))))))
                (case u5 => have e1 := hUN.len_eq; rw [List.length_append] at e1; omega)
                have hz9 : r.length + (Txt.join (Str.ofString "/") (us ++ sigs rowsA)).length ≤ 16777216 := by
                  have h1 := jn_len (Str.ofString "/") (us ++ sigs rowsA)
                  rw [show (Str.ofString "/").length = 1 from rfl] at h1
                  rw [tjoin]; omega
                intro DU hU' FU NU lU
                have NE : Unit → News G L0 hU' [(57, tabObj tb')] := fun _ p hp => by rw [List.mem_singleton.mp hp]; exact NU _ (.tail _ (.head _))
                dsimp only
                k_steps
                exact law_end (by rw [beq_self_eq_true]) hB3 rfl rfl rfl FU (NE ())))))
    · intro f s' hf
      obtain ⟨rfl, hB, m9, tb9, F9, N9⟩ := hf
      refine ⟨⟨?_, hB.1⟩, GrownAt.of N9 (.head _), True.intro⟩
      refine goodW_bool (b := true) (s' := { s' with gens := #[] }) F9 rfl (raisesW_false ?_) ?_ hB.2
      · wrow_none_raised
      · wrow_post
    · exact fun _ _ h => h.elim
end
end Mine
theorem PySem.Challenge.cw_rx0110_02_holds : PySem.Challenge.rw_rx0110_02.Holds :=
  holds_law (by decide +kernel) Mine.law2
