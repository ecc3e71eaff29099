import PyProof.Rows.All
import Wide.All
import OpenK.AllK
import Wide.FinOn
import Lean
import PySem.Challenge.RW_ij0121_01
open PySem PySem.W PyProof.Rows PySem.Calls
set_option Elab.async false
set_option maxRecDepth 100000
theorem Mine.quietOHead : True := by
  w_top off
  trivial
namespace Mine
open PySem
noncomputable def fnAt (s : Option Stmt) : Arguments × List Stmt × Scope := match s with
  | some (.FunctionDef _ a b _ _ _ sc _ _ _) => (a, b, sc)
  | _ => (⟨[], [], none, [], [], none, []⟩, [], ⟨.function, [], false, false, []⟩)
noncomputable def docAt (b : List Stmt) : Str := (docOf b).getD (Str.ofString "")
noncomputable def topAt (i : Nat) : Option Stmt := PySem.Challenge.rw_ij0121_01.row.toRowW.prog.main.body[i]?
noncomputable def clsAt (s : Option Stmt) : List Stmt := match s with
  | some (.ClassDef _ _ _ b ..) => b
  | _ => []
noncomputable def ob2 (P : Params) : Obj := { cls := Value.none, data := Data.dict #[] }
noncomputable def ob3 (P : Params) : Obj := { cls := Value.type "dict", data := Data.dict #[{ hash := PyData.keyHash P (Str.ofString "__name__"), key := Value.str (Str.ofString "__name__") 165, val := Value.str (Str.ofString "law_ij0121_01") 424 }, { hash := PyData.keyHash P (Str.ofString "__doc__"), key := Value.str (Str.ofString "__doc__") 166, val := Value.none }, { hash := PyData.keyHash P (Str.ofString "__package__"), key := Value.str (Str.ofString "__package__") 167, val := Value.none }, { hash := PyData.keyHash P (Str.ofString "__loader__"), key := Value.str (Str.ofString "__loader__") 168, val := Value.builtin "__main__.__loader__#opaque" }, { hash := PyData.keyHash P (Str.ofString "__spec__"), key := Value.str (Str.ofString "__spec__") 169, val := Value.none }, { hash := PyData.keyHash P (Str.ofString "__annotations__"), key := Value.str (Str.ofString "__annotations__") 170, val := Value.ref 6 }, { hash := PyData.keyHash P (Str.ofString "__builtins__"), key := Value.str (Str.ofString "__builtins__") 171, val := Value.ref 4 }, { hash := PyData.keyHash P (Str.ofString "__file__"), key := Value.str (Str.ofString "__file__") 173, val := Value.str (Str.ofString "/claim/cut.py") 172 }, { hash := PyData.keyHash P (Str.ofString "__cached__"), key := Value.str (Str.ofString "__cached__") 174, val := Value.none }, { hash := PyData.keyHash P (Str.ofString "_wall"), key := Value.str (Str.ofString "_wall") 193, val := Value.ref 21 }, { hash := PyData.keyHash P (Str.ofString "_pe_doc"), key := Value.str (Str.ofString "_pe_doc") 202, val := Value.ref 28 }, { hash := PyData.keyHash P (Str.ofString "_build_localename"), key := Value.str (Str.ofString "_build_localename") 214, val := Value.ref 35 }, { hash := PyData.keyHash P (Str.ofString "_plain_name"), key := Value.str (Str.ofString "_plain_name") 225, val := Value.ref 42 }, { hash := PyData.keyHash P (Str.ofString "ABCMeta"), key := Value.str (Str.ofString "ABCMeta") 251, val := Value.ref 59 }, { hash := PyData.keyHash P (Str.ofString "_ABCLike"), key := Value.str (Str.ofString "_ABCLike") 294, val := Value.ref 92 }, { hash := PyData.keyHash P (Str.ofString "_abc_plain_meta"), key := Value.str (Str.ofString "_abc_plain_meta") 301, val := Value.ref 101 }, { hash := PyData.keyHash P (Str.ofString "fspath"), key := Value.str (Str.ofString "fspath") 313, val := Value.ref 108 }, { hash := PyData.keyHash P (Str.ofString "_splitext"), key := Value.str (Str.ofString "_splitext") 330, val := Value.ref 115 }, { hash := PyData.keyHash P (Str.ofString "_check_arg_types"), key := Value.str (Str.ofString "_check_arg_types") 341, val := Value.ref 122 }, { hash := PyData.keyHash P (Str.ofString "_get_sep"), key := Value.str (Str.ofString "_get_sep") 350, val := Value.ref 129 }, { hash := PyData.keyHash P (Str.ofString "join"), key := Value.str (Str.ofString "join") 362, val := Value.ref 136 }, { hash := PyData.keyHash P (Str.ofString "split"), key := Value.str (Str.ofString "split") 374, val := Value.ref 143 }, { hash := PyData.keyHash P (Str.ofString "splitext"), key := Value.str (Str.ofString "splitext") 383, val := Value.ref 150 }, { hash := PyData.keyHash P (Str.ofString "commonpath"), key := Value.str (Str.ofString "commonpath") 423, val := Value.ref 158 }, { hash := PyData.keyHash P (Str.ofString "_law_parts"), key := Value.str (Str.ofString "_law_parts") 437, val := Value.ref 165 }, { hash := PyData.keyHash P (Str.ofString "_law_due"), key := Value.str (Str.ofString "_law_due") 450, val := Value.ref 172 }, { hash := PyData.keyHash P (Str.ofString "_law_words"), key := Value.str (Str.ofString "_law_words") 461, val := Value.ref 179 }, { hash := PyData.keyHash P (Str.ofString "_law_peeled"), key := Value.str (Str.ofString "_law_peeled") 473, val := Value.ref 186 }, { hash := PyData.keyHash P (Str.ofString "_law_laid"), key := Value.str (Str.ofString "_law_laid") 479, val := Value.ref 191 }, { hash := PyData.keyHash P (Str.ofString "_law_named"), key := Value.str (Str.ofString "_law_named") 487, val := Value.ref 198 }, { hash := PyData.keyHash P (Str.ofString "law"), key := Value.str (Str.ofString "law") 493, val := Value.ref 203 }] 31 }
noncomputable def ob15 (P : Params) : Obj := { cls := Value.type "tuple", data := Data.seq #[] }
noncomputable def ob17 (P : Params) : Obj := { cls := Value.type "tuple", data := Data.seq #[Value.str (Str.ofString "k") 190] }
noncomputable def ob18 (P : Params) : Obj := { cls := Value.type "tuple", data := Data.seq #[] }
noncomputable def ob20 (P : Params) : Obj := { cls := Value.type "code", data := Data.fields #[Value.str (Str.ofString "_wall") 187, Value.str (Str.ofString "_wall") 188, Value.str (Str.ofString "/claim/cut.py") 189, Value.int 1 0, Value.int 1 0, Value.int 0 0, Value.int 0 0, Value.int 3 0, Value.ref 15, Value.bool true, Value.int 181 0, Value.ref 16, Value.none, Value.ref 17, Value.ref 18, Value.ref 19, Value.int 191 0, Value.int 1 0, Value.str (Str.ofString "/claim/cut.py") 192] }
noncomputable def ob21 (P : Params) : Obj := { cls := Value.type "function", data := Data.func { name := Str.ofString "_wall", qualname := Str.ofString "_wall", params := (fnAt (topAt 0)).1, body := FuncBody.stmts (fnAt (topAt 0)).2.1, scope := (fnAt (topAt 0)).2.2, globals := 3, closure := [], defaults := Value.none, kwdefaults := Value.none, pyModule := Value.str (Str.ofString "__main__") 164, code := Value.ref 20 } }
noncomputable def ob29 (P : Params) : Obj := { cls := Value.type "tuple", data := Data.seq #[] }
noncomputable def ob31 (P : Params) : Obj := { cls := Value.type "tuple", data := Data.seq #[Value.str (Str.ofString "localetuple") 208, Value.str (Str.ofString "language") 209, Value.str (Str.ofString "encoding") 210] }
noncomputable def ob32 (P : Params) : Obj := { cls := Value.type "tuple", data := Data.seq #[] }
noncomputable def ob34 (P : Params) : Obj := { cls := Value.type "code", data := Data.fields #[Value.str (Str.ofString "_build_localename") 205, Value.str (Str.ofString "_build_localename") 206, Value.str (Str.ofString "/claim/cut.py") 207, Value.int 13 0, Value.int 1 0, Value.int 0 0, Value.int 0 0, Value.int 3 0, Value.ref 29, Value.bool true, Value.int 181 0, Value.ref 30, Value.none, Value.ref 31, Value.ref 32, Value.ref 33, Value.int 211 0, Value.int 13 0, Value.str (Str.ofString "/claim/cut.py") 212] }
noncomputable def ob35 (P : Params) : Obj := { cls := Value.type "function", data := Data.func { name := Str.ofString "_build_localename", qualname := Str.ofString "_build_localename", params := (fnAt (topAt 3)).1, body := FuncBody.stmts (fnAt (topAt 3)).2.1, scope := (fnAt (topAt 3)).2.2, globals := 3, closure := [], defaults := Value.none, kwdefaults := Value.none, doc := Value.str (docAt (fnAt (topAt 3)).2.1) 213, pyModule := Value.str (Str.ofString "cpy313.locale") 203, code := Value.ref 34 } }
noncomputable def ob36 (P : Params) : Obj := { cls := Value.type "tuple", data := Data.seq #[] }
noncomputable def ob38 (P : Params) : Obj := { cls := Value.type "tuple", data := Data.seq #[Value.str (Str.ofString "x") 220, Value.str (Str.ofString "what") 221, Value.str (Str.ofString "kind") 222] }
noncomputable def ob39 (P : Params) : Obj := { cls := Value.type "tuple", data := Data.seq #[] }
noncomputable def ob41 (P : Params) : Obj := { cls := Value.type "code", data := Data.fields #[Value.str (Str.ofString "_plain_name") 217, Value.str (Str.ofString "_plain_name") 218, Value.str (Str.ofString "/claim/cut.py") 219, Value.int 31 0, Value.int 2 0, Value.int 0 0, Value.int 0 0, Value.int 3 0, Value.ref 36, Value.bool true, Value.int 181 0, Value.ref 37, Value.none, Value.ref 38, Value.ref 39, Value.ref 40, Value.int 223 0, Value.int 31 0, Value.str (Str.ofString "/claim/cut.py") 224] }
noncomputable def ob42 (P : Params) : Obj := { cls := Value.type "function", data := Data.func { name := Str.ofString "_plain_name", qualname := Str.ofString "_plain_name", params := (fnAt (topAt 5)).1, body := FuncBody.stmts (fnAt (topAt 5)).2.1, scope := (fnAt (topAt 5)).2.2, globals := 3, closure := [], defaults := Value.none, kwdefaults := Value.none, pyModule := Value.str (Str.ofString "os") 215, code := Value.ref 41 } }
noncomputable def ob43 (P : Params) : Obj := { cls := Value.type "tuple", data := Data.seq #[Value.type "type"] }
noncomputable def ob50 (P : Params) : Obj := { cls := Value.type "tuple", data := Data.seq #[] }
noncomputable def ob52 (P : Params) : Obj := { cls := Value.type "tuple", data := Data.seq #[Value.str (Str.ofString "cls") 243, Value.str (Str.ofString "subclass") 244] }
noncomputable def ob53 (P : Params) : Obj := { cls := Value.type "tuple", data := Data.seq #[] }
noncomputable def ob55 (P : Params) : Obj := { cls := Value.type "code", data := Data.fields #[Value.str (Str.ofString "register") 240, Value.str (Str.ofString "ABCMeta.register") 241, Value.str (Str.ofString "/claim/cut.py") 242, Value.int 39 0, Value.int 2 0, Value.int 0 0, Value.int 0 0, Value.int 3 0, Value.ref 50, Value.bool true, Value.int 181 0, Value.ref 51, Value.none, Value.ref 52, Value.ref 53, Value.ref 54, Value.int 245 0, Value.int 39 0, Value.str (Str.ofString "/claim/cut.py") 246] }
noncomputable def ob56 (P : Params) : Obj := { cls := Value.type "function", data := Data.func { name := Str.ofString "register", qualname := Str.ofString "ABCMeta.register", params := (fnAt ((clsAt (topAt 7))[0]?)).1, body := FuncBody.stmts (fnAt ((clsAt (topAt 7))[0]?)).2.1, scope := (fnAt ((clsAt (topAt 7))[0]?)).2.2, globals := 3, closure := [], defaults := Value.none, kwdefaults := Value.none, pyModule := Value.str (Str.ofString "abc") 226, code := Value.ref 55 } }
noncomputable def ob57 (P : Params) : Obj := { cls := Value.type "tuple", data := Data.seq #[] }
noncomputable def ob58 (P : Params) : Obj := { cls := Value.type "dict", data := Data.dict #[{ hash := PyData.keyHash P (Str.ofString "__module__"), key := Value.str (Str.ofString "__module__") 235, val := Value.str (Str.ofString "abc") 226 }, { hash := PyData.keyHash P (Str.ofString "__firstlineno__"), key := Value.str (Str.ofString "__firstlineno__") 239, val := Value.int 37 238 }, { hash := PyData.keyHash P (Str.ofString "register"), key := Value.str (Str.ofString "register") 247, val := Value.ref 56 }, { hash := PyData.keyHash P (Str.ofString "__static_attributes__"), key := Value.str (Str.ofString "__static_attributes__") 248, val := Value.ref 57 }, { hash := PyData.keyHash P (Str.ofString "__doc__"), key := Value.str (Str.ofString "__doc__") 249, val := Value.none }] 2 }
noncomputable def ob59 (P : Params) : Obj := { cls := Value.type "type", data := Data.cls { name := Str.ofString "ABCMeta", bases := [Value.type "type"], mro := [Value.ref 59, Value.type "type", Value.type "object"], ns := 58, qualname := Str.ofString "ABCMeta", subclasses := [Value.ref 92] }, slots := #[some (Value.ref 43), none, some (Value.str (Str.ofString "ABCMeta") 228), some (Value.str (Str.ofString "ABCMeta") 236), some (Value.builtin "type.__new__"), some (Value.bool true)] }
noncomputable def ob62 (P : Params) : Obj := { cls := Value.type "tuple", data := Data.seq #[Value.ref 59] }
noncomputable def ob69 (P : Params) : Obj := { cls := Value.type "tuple", data := Data.seq #[] }
noncomputable def ob71 (P : Params) : Obj := { cls := Value.type "tuple", data := Data.seq #[Value.str (Str.ofString "cls") 269, Value.str (Str.ofString "instance") 270, Value.str (Str.ofString "C") 271] }
noncomputable def ob72 (P : Params) : Obj := { cls := Value.type "tuple", data := Data.seq #[] }
noncomputable def ob74 (P : Params) : Obj := { cls := Value.type "code", data := Data.fields #[Value.str (Str.ofString "__instancecheck__") 266, Value.str (Str.ofString "_ABCLike.__instancecheck__") 267, Value.str (Str.ofString "/claim/cut.py") 268, Value.int 44 0, Value.int 2 0, Value.int 0 0, Value.int 0 0, Value.int 3 0, Value.ref 69, Value.bool true, Value.int 181 0, Value.ref 70, Value.none, Value.ref 71, Value.ref 72, Value.ref 73, Value.int 272 0, Value.int 44 0, Value.str (Str.ofString "/claim/cut.py") 273] }
noncomputable def ob75 (P : Params) : Obj := { cls := Value.type "function", data := Data.func { name := Str.ofString "__instancecheck__", qualname := Str.ofString "_ABCLike.__instancecheck__", params := (fnAt ((clsAt (topAt 9))[0]?)).1, body := FuncBody.stmts (fnAt ((clsAt (topAt 9))[0]?)).2.1, scope := (fnAt ((clsAt (topAt 9))[0]?)).2.2, globals := 3, closure := [], defaults := Value.none, kwdefaults := Value.none, pyModule := Value.str (Str.ofString "collections.abc") 252, code := Value.ref 74 } }
noncomputable def ob76 (P : Params) : Obj := { cls := Value.type "tuple", data := Data.seq #[] }
noncomputable def ob78 (P : Params) : Obj := { cls := Value.type "tuple", data := Data.seq #[Value.str (Str.ofString "cls") 278, Value.str (Str.ofString "C") 279] }
noncomputable def ob79 (P : Params) : Obj := { cls := Value.type "tuple", data := Data.seq #[] }
noncomputable def ob81 (P : Params) : Obj := { cls := Value.type "code", data := Data.fields #[Value.str (Str.ofString "__subclasscheck__") 275, Value.str (Str.ofString "_ABCLike.__subclasscheck__") 276, Value.str (Str.ofString "/claim/cut.py") 277, Value.int 50 0, Value.int 2 0, Value.int 0 0, Value.int 0 0, Value.int 3 0, Value.ref 76, Value.bool true, Value.int 181 0, Value.ref 77, Value.none, Value.ref 78, Value.ref 79, Value.ref 80, Value.int 280 0, Value.int 50 0, Value.str (Str.ofString "/claim/cut.py") 281] }
noncomputable def ob82 (P : Params) : Obj := { cls := Value.type "function", data := Data.func { name := Str.ofString "__subclasscheck__", qualname := Str.ofString "_ABCLike.__subclasscheck__", params := (fnAt ((clsAt (topAt 9))[1]?)).1, body := FuncBody.stmts (fnAt ((clsAt (topAt 9))[1]?)).2.1, scope := (fnAt ((clsAt (topAt 9))[1]?)).2.2, globals := 3, closure := [], defaults := Value.none, kwdefaults := Value.none, pyModule := Value.str (Str.ofString "collections.abc") 252, code := Value.ref 81 } }
noncomputable def ob83 (P : Params) : Obj := { cls := Value.type "tuple", data := Data.seq #[] }
noncomputable def ob85 (P : Params) : Obj := { cls := Value.type "tuple", data := Data.seq #[Value.str (Str.ofString "cls") 286, Value.str (Str.ofString "subclass") 287] }
noncomputable def ob86 (P : Params) : Obj := { cls := Value.type "tuple", data := Data.seq #[] }
noncomputable def ob88 (P : Params) : Obj := { cls := Value.type "code", data := Data.fields #[Value.str (Str.ofString "register") 283, Value.str (Str.ofString "_ABCLike.register") 284, Value.str (Str.ofString "/claim/cut.py") 285, Value.int 55 0, Value.int 2 0, Value.int 0 0, Value.int 0 0, Value.int 3 0, Value.ref 83, Value.bool true, Value.int 181 0, Value.ref 84, Value.none, Value.ref 85, Value.ref 86, Value.ref 87, Value.int 288 0, Value.int 55 0, Value.str (Str.ofString "/claim/cut.py") 289] }
noncomputable def ob89 (P : Params) : Obj := { cls := Value.type "function", data := Data.func { name := Str.ofString "register", qualname := Str.ofString "_ABCLike.register", params := (fnAt ((clsAt (topAt 9))[2]?)).1, body := FuncBody.stmts (fnAt ((clsAt (topAt 9))[2]?)).2.1, scope := (fnAt ((clsAt (topAt 9))[2]?)).2.2, globals := 3, closure := [], defaults := Value.none, kwdefaults := Value.none, pyModule := Value.str (Str.ofString "collections.abc") 252, code := Value.ref 88 } }
noncomputable def ob90 (P : Params) : Obj := { cls := Value.type "tuple", data := Data.seq #[] }
noncomputable def ob91 (P : Params) : Obj := { cls := Value.type "dict", data := Data.dict #[{ hash := PyData.keyHash P (Str.ofString "__module__"), key := Value.str (Str.ofString "__module__") 261, val := Value.str (Str.ofString "collections.abc") 252 }, { hash := PyData.keyHash P (Str.ofString "__firstlineno__"), key := Value.str (Str.ofString "__firstlineno__") 265, val := Value.int 42 264 }, { hash := PyData.keyHash P (Str.ofString "__instancecheck__"), key := Value.str (Str.ofString "__instancecheck__") 274, val := Value.ref 75 }, { hash := PyData.keyHash P (Str.ofString "__subclasscheck__"), key := Value.str (Str.ofString "__subclasscheck__") 282, val := Value.ref 82 }, { hash := PyData.keyHash P (Str.ofString "register"), key := Value.str (Str.ofString "register") 290, val := Value.ref 89 }, { hash := PyData.keyHash P (Str.ofString "__static_attributes__"), key := Value.str (Str.ofString "__static_attributes__") 291, val := Value.ref 90 }, { hash := PyData.keyHash P (Str.ofString "__doc__"), key := Value.str (Str.ofString "__doc__") 292, val := Value.none }] 2 }
noncomputable def ob92 (P : Params) : Obj := { cls := Value.type "type", data := Data.cls { name := Str.ofString "_ABCLike", bases := [Value.ref 59], mro := [Value.ref 92, Value.ref 59, Value.type "type", Value.type "object"], ns := 91, qualname := Str.ofString "_ABCLike" }, slots := #[some (Value.ref 62), none, some (Value.str (Str.ofString "_ABCLike") 254), some (Value.str (Str.ofString "_ABCLike") 262), some (Value.builtin "type.__new__"), some (Value.bool true)] }
noncomputable def ob95 (P : Params) : Obj := { cls := Value.type "tuple", data := Data.seq #[] }
noncomputable def ob97 (P : Params) : Obj := { cls := Value.type "tuple", data := Data.seq #[Value.str (Str.ofString "C") 298] }
noncomputable def ob98 (P : Params) : Obj := { cls := Value.type "tuple", data := Data.seq #[] }
noncomputable def ob100 (P : Params) : Obj := { cls := Value.type "code", data := Data.fields #[Value.str (Str.ofString "_abc_plain_meta") 295, Value.str (Str.ofString "_abc_plain_meta") 296, Value.str (Str.ofString "/claim/cut.py") 297, Value.int 57 0, Value.int 1 0, Value.int 0 0, Value.int 0 0, Value.int 3 0, Value.ref 95, Value.bool true, Value.int 181 0, Value.ref 96, Value.none, Value.ref 97, Value.ref 98, Value.ref 99, Value.int 299 0, Value.int 57 0, Value.str (Str.ofString "/claim/cut.py") 300] }
noncomputable def ob101 (P : Params) : Obj := { cls := Value.type "function", data := Data.func { name := Str.ofString "_abc_plain_meta", qualname := Str.ofString "_abc_plain_meta", params := (fnAt (topAt 10)).1, body := FuncBody.stmts (fnAt (topAt 10)).2.1, scope := (fnAt (topAt 10)).2.2, globals := 3, closure := [], defaults := Value.none, kwdefaults := Value.none, pyModule := Value.str (Str.ofString "collections.abc") 252, code := Value.ref 100 } }
noncomputable def ob102 (P : Params) : Obj := { cls := Value.type "tuple", data := Data.seq #[] }
noncomputable def ob104 (P : Params) : Obj := { cls := Value.type "tuple", data := Data.seq #[Value.str (Str.ofString "path") 307, Value.str (Str.ofString "kind") 308, Value.str (Str.ofString "hook") 309, Value.str (Str.ofString "given") 310] }
noncomputable def ob105 (P : Params) : Obj := { cls := Value.type "tuple", data := Data.seq #[] }
noncomputable def ob107 (P : Params) : Obj := { cls := Value.type "code", data := Data.fields #[Value.str (Str.ofString "fspath") 304, Value.str (Str.ofString "fspath") 305, Value.str (Str.ofString "/claim/cut.py") 306, Value.int 61 0, Value.int 1 0, Value.int 0 0, Value.int 0 0, Value.int 3 0, Value.ref 102, Value.bool true, Value.int 181 0, Value.ref 103, Value.none, Value.ref 104, Value.ref 105, Value.ref 106, Value.int 311 0, Value.int 61 0, Value.str (Str.ofString "/claim/cut.py") 312] }
noncomputable def ob108 (P : Params) : Obj := { cls := Value.type "function", data := Data.func { name := Str.ofString "fspath", qualname := Str.ofString "fspath", params := (fnAt (topAt 12)).1, body := FuncBody.stmts (fnAt (topAt 12)).2.1, scope := (fnAt (topAt 12)).2.2, globals := 3, closure := [], defaults := Value.none, kwdefaults := Value.none, pyModule := Value.str (Str.ofString "os") 302, code := Value.ref 107 } }
noncomputable def ob109 (P : Params) : Obj := { cls := Value.type "tuple", data := Data.seq #[] }
noncomputable def ob111 (P : Params) : Obj := { cls := Value.type "tuple", data := Data.seq #[Value.str (Str.ofString "p") 319, Value.str (Str.ofString "sep") 320, Value.str (Str.ofString "altsep") 321, Value.str (Str.ofString "extsep") 322, Value.str (Str.ofString "sepIndex") 323, Value.str (Str.ofString "altsepIndex") 324, Value.str (Str.ofString "dotIndex") 325, Value.str (Str.ofString "filenameIndex") 326] }
noncomputable def ob112 (P : Params) : Obj := { cls := Value.type "tuple", data := Data.seq #[] }
noncomputable def ob114 (P : Params) : Obj := { cls := Value.type "code", data := Data.fields #[Value.str (Str.ofString "_splitext") 316, Value.str (Str.ofString "_splitext") 317, Value.str (Str.ofString "/claim/cut.py") 318, Value.int 78 0, Value.int 4 0, Value.int 0 0, Value.int 0 0, Value.int 3 0, Value.ref 109, Value.bool true, Value.int 181 0, Value.ref 110, Value.none, Value.ref 111, Value.ref 112, Value.ref 113, Value.int 327 0, Value.int 78 0, Value.str (Str.ofString "/claim/cut.py") 328] }
noncomputable def ob115 (P : Params) : Obj := { cls := Value.type "function", data := Data.func { name := Str.ofString "_splitext", qualname := Str.ofString "_splitext", params := (fnAt (topAt 14)).1, body := FuncBody.stmts (fnAt (topAt 14)).2.1, scope := (fnAt (topAt 14)).2.2, globals := 3, closure := [], defaults := Value.none, kwdefaults := Value.none, doc := Value.str (docAt (fnAt (topAt 14)).2.1) 329, pyModule := Value.str (Str.ofString "cpy313.genericpath") 314, code := Value.ref 114 } }
noncomputable def ob116 (P : Params) : Obj := { cls := Value.type "tuple", data := Data.seq #[] }
noncomputable def ob118 (P : Params) : Obj := { cls := Value.type "tuple", data := Data.seq #[Value.str (Str.ofString "funcname") 334, Value.str (Str.ofString "args") 335, Value.str (Str.ofString "hasstr") 336, Value.str (Str.ofString "hasbytes") 337, Value.str (Str.ofString "s") 338] }
noncomputable def ob119 (P : Params) : Obj := { cls := Value.type "tuple", data := Data.seq #[] }
noncomputable def ob121 (P : Params) : Obj := { cls := Value.type "code", data := Data.fields #[Value.str (Str.ofString "_check_arg_types") 331, Value.str (Str.ofString "_check_arg_types") 332, Value.str (Str.ofString "/claim/cut.py") 333, Value.int 95 0, Value.int 1 0, Value.int 0 0, Value.int 0 0, Value.int 7 0, Value.ref 116, Value.bool true, Value.int 181 0, Value.ref 117, Value.none, Value.ref 118, Value.ref 119, Value.ref 120, Value.int 339 0, Value.int 95 0, Value.str (Str.ofString "/claim/cut.py") 340] }
noncomputable def ob122 (P : Params) : Obj := { cls := Value.type "function", data := Data.func { name := Str.ofString "_check_arg_types", qualname := Str.ofString "_check_arg_types", params := (fnAt (topAt 15)).1, body := FuncBody.stmts (fnAt (topAt 15)).2.1, scope := (fnAt (topAt 15)).2.2, globals := 3, closure := [], defaults := Value.none, kwdefaults := Value.none, pyModule := Value.str (Str.ofString "cpy313.genericpath") 314, code := Value.ref 121 } }
noncomputable def ob123 (P : Params) : Obj := { cls := Value.type "tuple", data := Data.seq #[] }
noncomputable def ob125 (P : Params) : Obj := { cls := Value.type "tuple", data := Data.seq #[Value.str (Str.ofString "path") 347] }
noncomputable def ob126 (P : Params) : Obj := { cls := Value.type "tuple", data := Data.seq #[] }
noncomputable def ob128 (P : Params) : Obj := { cls := Value.type "code", data := Data.fields #[Value.str (Str.ofString "_get_sep") 344, Value.str (Str.ofString "_get_sep") 345, Value.str (Str.ofString "/claim/cut.py") 346, Value.int 107 0, Value.int 1 0, Value.int 0 0, Value.int 0 0, Value.int 3 0, Value.ref 123, Value.bool true, Value.int 181 0, Value.ref 124, Value.none, Value.ref 125, Value.ref 126, Value.ref 127, Value.int 348 0, Value.int 107 0, Value.str (Str.ofString "/claim/cut.py") 349] }
noncomputable def ob129 (P : Params) : Obj := { cls := Value.type "function", data := Data.func { name := Str.ofString "_get_sep", qualname := Str.ofString "_get_sep", params := (fnAt (topAt 17)).1, body := FuncBody.stmts (fnAt (topAt 17)).2.1, scope := (fnAt (topAt 17)).2.2, globals := 3, closure := [], defaults := Value.none, kwdefaults := Value.none, pyModule := Value.str (Str.ofString "cpy313.posixpath") 342, code := Value.ref 128 } }
noncomputable def ob130 (P : Params) : Obj := { cls := Value.type "tuple", data := Data.seq #[] }
noncomputable def ob132 (P : Params) : Obj := { cls := Value.type "tuple", data := Data.seq #[Value.str (Str.ofString "a") 354, Value.str (Str.ofString "p") 355, Value.str (Str.ofString "sep") 356, Value.str (Str.ofString "path") 357, Value.str (Str.ofString "b") 358] }
noncomputable def ob133 (P : Params) : Obj := { cls := Value.type "tuple", data := Data.seq #[] }
noncomputable def ob135 (P : Params) : Obj := { cls := Value.type "code", data := Data.fields #[Value.str (Str.ofString "join") 351, Value.str (Str.ofString "join") 352, Value.str (Str.ofString "/claim/cut.py") 353, Value.int 112 0, Value.int 1 0, Value.int 0 0, Value.int 0 0, Value.int 7 0, Value.ref 130, Value.bool true, Value.int 181 0, Value.ref 131, Value.none, Value.ref 132, Value.ref 133, Value.ref 134, Value.int 359 0, Value.int 112 0, Value.str (Str.ofString "/claim/cut.py") 360] }
noncomputable def ob136 (P : Params) : Obj := { cls := Value.type "function", data := Data.func { name := Str.ofString "join", qualname := Str.ofString "join", params := (fnAt (topAt 18)).1, body := FuncBody.stmts (fnAt (topAt 18)).2.1, scope := (fnAt (topAt 18)).2.2, globals := 3, closure := [], defaults := Value.none, kwdefaults := Value.none, doc := Value.str (docAt (fnAt (topAt 18)).2.1) 361, pyModule := Value.str (Str.ofString "cpy313.posixpath") 342, code := Value.ref 135 } }
noncomputable def ob137 (P : Params) : Obj := { cls := Value.type "tuple", data := Data.seq #[] }
noncomputable def ob139 (P : Params) : Obj := { cls := Value.type "tuple", data := Data.seq #[Value.str (Str.ofString "p") 366, Value.str (Str.ofString "sep") 367, Value.str (Str.ofString "i") 368, Value.str (Str.ofString "head") 369, Value.str (Str.ofString "tail") 370] }
noncomputable def ob140 (P : Params) : Obj := { cls := Value.type "tuple", data := Data.seq #[] }
noncomputable def ob142 (P : Params) : Obj := { cls := Value.type "code", data := Data.fields #[Value.str (Str.ofString "split") 363, Value.str (Str.ofString "split") 364, Value.str (Str.ofString "/claim/cut.py") 365, Value.int 133 0, Value.int 1 0, Value.int 0 0, Value.int 0 0, Value.int 3 0, Value.ref 137, Value.bool true, Value.int 181 0, Value.ref 138, Value.none, Value.ref 139, Value.ref 140, Value.ref 141, Value.int 371 0, Value.int 133 0, Value.str (Str.ofString "/claim/cut.py") 372] }
noncomputable def ob143 (P : Params) : Obj := { cls := Value.type "function", data := Data.func { name := Str.ofString "split", qualname := Str.ofString "split", params := (fnAt (topAt 19)).1, body := FuncBody.stmts (fnAt (topAt 19)).2.1, scope := (fnAt (topAt 19)).2.2, globals := 3, closure := [], defaults := Value.none, kwdefaults := Value.none, doc := Value.str (docAt (fnAt (topAt 19)).2.1) 373, pyModule := Value.str (Str.ofString "cpy313.posixpath") 342, code := Value.ref 142 } }
noncomputable def ob144 (P : Params) : Obj := { cls := Value.type "tuple", data := Data.seq #[] }
noncomputable def ob146 (P : Params) : Obj := { cls := Value.type "tuple", data := Data.seq #[Value.str (Str.ofString "p") 378, Value.str (Str.ofString "sep") 379, Value.str (Str.ofString "extsep") 380] }
noncomputable def ob147 (P : Params) : Obj := { cls := Value.type "tuple", data := Data.seq #[] }
noncomputable def ob149 (P : Params) : Obj := { cls := Value.type "code", data := Data.fields #[Value.str (Str.ofString "splitext") 375, Value.str (Str.ofString "splitext") 376, Value.str (Str.ofString "/claim/cut.py") 377, Value.int 143 0, Value.int 1 0, Value.int 0 0, Value.int 0 0, Value.int 3 0, Value.ref 144, Value.bool true, Value.int 181 0, Value.ref 145, Value.none, Value.ref 146, Value.ref 147, Value.ref 148, Value.int 381 0, Value.int 143 0, Value.str (Str.ofString "/claim/cut.py") 382] }
noncomputable def ob150 (P : Params) : Obj := { cls := Value.type "function", data := Data.func { name := Str.ofString "splitext", qualname := Str.ofString "splitext", params := (fnAt (topAt 20)).1, body := FuncBody.stmts (fnAt (topAt 20)).2.1, scope := (fnAt (topAt 20)).2.2, globals := 3, closure := [], defaults := Value.none, kwdefaults := Value.none, doc := Value.str (docAt (fnAt (topAt 14)).2.1) 329, pyModule := Value.str (Str.ofString "cpy313.posixpath") 342, code := Value.ref 149 } }
noncomputable def ob154 (P : Params) : Obj := { cls := Value.type "tuple", data := Data.seq #[] }
noncomputable def ob157 (P : Params) : Obj := { cls := Value.type "code", data := Data.fields #[Value.str (Str.ofString "commonpath") 417, Value.str (Str.ofString "commonpath") 418, Value.str (Str.ofString "/claim/cut.py") 419, Value.int 153 0, Value.int 1 0, Value.int 0 0, Value.int 0 0, Value.int 3 0, Value.ref 154, Value.bool true, Value.int 181 0, Value.ref 155, Value.none, Value.none, Value.none, Value.ref 156, Value.int 420 0, Value.int 153 0, Value.str (Str.ofString "/claim/cut.py") 421] }
noncomputable def ob158 (P : Params) : Obj := { cls := Value.type "function", data := Data.func { name := Str.ofString "commonpath", qualname := Str.ofString "commonpath", params := (fnAt (topAt 22)).1, body := FuncBody.stmts (fnAt (topAt 22)).2.1, scope := (fnAt (topAt 22)).2.2, globals := 3, closure := [], defaults := Value.none, kwdefaults := Value.none, doc := Value.str (docAt (fnAt (topAt 22)).2.1) 422, pyModule := Value.str (Str.ofString "cpy313.posixpath") 342, code := Value.ref 157 } }
noncomputable def ob159 (P : Params) : Obj := { cls := Value.type "tuple", data := Data.seq #[] }
noncomputable def ob161 (P : Params) : Obj := { cls := Value.type "tuple", data := Data.seq #[Value.str (Str.ofString "path") 429, Value.str (Str.ofString "lead") 430, Value.str (Str.ofString "names") 431, Value.str (Str.ofString "runs") 432, Value.str (Str.ofString "last") 433, Value.str (Str.ofString "sign") 434] }
noncomputable def ob162 (P : Params) : Obj := { cls := Value.type "tuple", data := Data.seq #[] }
noncomputable def ob164 (P : Params) : Obj := { cls := Value.type "code", data := Data.fields #[Value.str (Str.ofString "_law_parts") 426, Value.str (Str.ofString "_law_parts") 427, Value.str (Str.ofString "/claim/cut.py") 428, Value.int 184 0, Value.int 1 0, Value.int 0 0, Value.int 0 0, Value.int 3 0, Value.ref 159, Value.bool true, Value.int 181 0, Value.ref 160, Value.none, Value.ref 161, Value.ref 162, Value.ref 163, Value.int 435 0, Value.int 184 0, Value.str (Str.ofString "/claim/cut.py") 436] }
noncomputable def ob165 (P : Params) : Obj := { cls := Value.type "function", data := Data.func { name := Str.ofString "_law_parts", qualname := Str.ofString "_law_parts", params := (fnAt (topAt 24)).1, body := FuncBody.stmts (fnAt (topAt 24)).2.1, scope := (fnAt (topAt 24)).2.2, globals := 3, closure := [], defaults := Value.none, kwdefaults := Value.none, pyModule := Value.str (Str.ofString "law_ij0121_01") 424, code := Value.ref 164 } }
noncomputable def ob166 (P : Params) : Obj := { cls := Value.type "tuple", data := Data.seq #[] }
noncomputable def ob168 (P : Params) : Obj := { cls := Value.type "tuple", data := Data.seq #[Value.str (Str.ofString "lead") 441, Value.str (Str.ofString "names") 442, Value.str (Str.ofString "runs") 443, Value.str (Str.ofString "steps") 444, Value.str (Str.ofString "left") 445, Value.str (Str.ofString "text") 446, Value.str (Str.ofString "k") 447] }
noncomputable def ob169 (P : Params) : Obj := { cls := Value.type "tuple", data := Data.seq #[] }
noncomputable def ob171 (P : Params) : Obj := { cls := Value.type "code", data := Data.fields #[Value.str (Str.ofString "_law_due") 438, Value.str (Str.ofString "_law_due") 439, Value.str (Str.ofString "/claim/cut.py") 440, Value.int 201 0, Value.int 4 0, Value.int 0 0, Value.int 0 0, Value.int 3 0, Value.ref 166, Value.bool true, Value.int 181 0, Value.ref 167, Value.none, Value.ref 168, Value.ref 169, Value.ref 170, Value.int 448 0, Value.int 201 0, Value.str (Str.ofString "/claim/cut.py") 449] }
noncomputable def ob172 (P : Params) : Obj := { cls := Value.type "function", data := Data.func { name := Str.ofString "_law_due", qualname := Str.ofString "_law_due", params := (fnAt (topAt 25)).1, body := FuncBody.stmts (fnAt (topAt 25)).2.1, scope := (fnAt (topAt 25)).2.2, globals := 3, closure := [], defaults := Value.none, kwdefaults := Value.none, pyModule := Value.str (Str.ofString "law_ij0121_01") 424, code := Value.ref 171 } }
noncomputable def ob173 (P : Params) : Obj := { cls := Value.type "tuple", data := Data.seq #[] }
noncomputable def ob175 (P : Params) : Obj := { cls := Value.type "tuple", data := Data.seq #[Value.str (Str.ofString "lead") 454, Value.str (Str.ofString "text") 455, Value.str (Str.ofString "name") 456, Value.str (Str.ofString "dots") 457, Value.str (Str.ofString "words") 458] }
noncomputable def ob176 (P : Params) : Obj := { cls := Value.type "tuple", data := Data.seq #[] }
noncomputable def ob178 (P : Params) : Obj := { cls := Value.type "code", data := Data.fields #[Value.str (Str.ofString "_law_words") 451, Value.str (Str.ofString "_law_words") 452, Value.str (Str.ofString "/claim/cut.py") 453, Value.int 214 0, Value.int 2 0, Value.int 0 0, Value.int 0 0, Value.int 3 0, Value.ref 173, Value.bool true, Value.int 181 0, Value.ref 174, Value.none, Value.ref 175, Value.ref 176, Value.ref 177, Value.int 459 0, Value.int 214 0, Value.str (Str.ofString "/claim/cut.py") 460] }
noncomputable def ob179 (P : Params) : Obj := { cls := Value.type "function", data := Data.func { name := Str.ofString "_law_words", qualname := Str.ofString "_law_words", params := (fnAt (topAt 26)).1, body := FuncBody.stmts (fnAt (topAt 26)).2.1, scope := (fnAt (topAt 26)).2.2, globals := 3, closure := [], defaults := Value.none, kwdefaults := Value.none, pyModule := Value.str (Str.ofString "law_ij0121_01") 424, code := Value.ref 178 } }
noncomputable def ob180 (P : Params) : Obj := { cls := Value.type "tuple", data := Data.seq #[] }
noncomputable def ob182 (P : Params) : Obj := { cls := Value.type "tuple", data := Data.seq #[Value.str (Str.ofString "text") 465, Value.str (Str.ofString "words") 466, Value.str (Str.ofString "rest") 467, Value.str (Str.ofString "k") 468, Value.str (Str.ofString "root") 469, Value.str (Str.ofString "ending") 470] }
noncomputable def ob183 (P : Params) : Obj := { cls := Value.type "tuple", data := Data.seq #[] }
noncomputable def ob185 (P : Params) : Obj := { cls := Value.type "code", data := Data.fields #[Value.str (Str.ofString "_law_peeled") 462, Value.str (Str.ofString "_law_peeled") 463, Value.str (Str.ofString "/claim/cut.py") 464, Value.int 221 0, Value.int 1 0, Value.int 0 0, Value.int 0 0, Value.int 3 0, Value.ref 180, Value.bool true, Value.int 181 0, Value.ref 181, Value.none, Value.ref 182, Value.ref 183, Value.ref 184, Value.int 471 0, Value.int 221 0, Value.str (Str.ofString "/claim/cut.py") 472] }
noncomputable def ob186 (P : Params) : Obj := { cls := Value.type "function", data := Data.func { name := Str.ofString "_law_peeled", qualname := Str.ofString "_law_peeled", params := (fnAt (topAt 27)).1, body := FuncBody.stmts (fnAt (topAt 27)).2.1, scope := (fnAt (topAt 27)).2.2, globals := 3, closure := [], defaults := Value.none, kwdefaults := Value.none, pyModule := Value.str (Str.ofString "law_ij0121_01") 424, code := Value.ref 185 } }
noncomputable def ob187 (P : Params) : Obj := { cls := Value.type "tuple", data := Data.seq #[] }
noncomputable def ob190 (P : Params) : Obj := { cls := Value.type "code", data := Data.fields #[Value.str (Str.ofString "_law_laid") 474, Value.str (Str.ofString "_law_laid") 475, Value.str (Str.ofString "/claim/cut.py") 476, Value.int 231 0, Value.int 2 0, Value.int 0 0, Value.int 0 0, Value.int 3 0, Value.ref 187, Value.bool true, Value.int 181 0, Value.ref 188, Value.none, Value.none, Value.none, Value.ref 189, Value.int 477 0, Value.int 231 0, Value.str (Str.ofString "/claim/cut.py") 478] }
noncomputable def ob191 (P : Params) : Obj := { cls := Value.type "function", data := Data.func { name := Str.ofString "_law_laid", qualname := Str.ofString "_law_laid", params := (fnAt (topAt 28)).1, body := FuncBody.stmts (fnAt (topAt 28)).2.1, scope := (fnAt (topAt 28)).2.2, globals := 3, closure := [], defaults := Value.none, kwdefaults := Value.none, pyModule := Value.str (Str.ofString "law_ij0121_01") 424, code := Value.ref 190 } }
noncomputable def ob192 (P : Params) : Obj := { cls := Value.type "tuple", data := Data.seq #[] }
noncomputable def ob194 (P : Params) : Obj := { cls := Value.type "tuple", data := Data.seq #[Value.str (Str.ofString "parts") 483, Value.str (Str.ofString "error") 484] }
noncomputable def ob195 (P : Params) : Obj := { cls := Value.type "tuple", data := Data.seq #[] }
noncomputable def ob197 (P : Params) : Obj := { cls := Value.type "code", data := Data.fields #[Value.str (Str.ofString "_law_named") 480, Value.str (Str.ofString "_law_named") 481, Value.str (Str.ofString "/claim/cut.py") 482, Value.int 236 0, Value.int 1 0, Value.int 0 0, Value.int 0 0, Value.int 3 0, Value.ref 192, Value.bool true, Value.int 181 0, Value.ref 193, Value.none, Value.ref 194, Value.ref 195, Value.ref 196, Value.int 485 0, Value.int 236 0, Value.str (Str.ofString "/claim/cut.py") 486] }
noncomputable def ob198 (P : Params) : Obj := { cls := Value.type "function", data := Data.func { name := Str.ofString "_law_named", qualname := Str.ofString "_law_named", params := (fnAt (topAt 29)).1, body := FuncBody.stmts (fnAt (topAt 29)).2.1, scope := (fnAt (topAt 29)).2.2, globals := 3, closure := [], defaults := Value.none, kwdefaults := Value.none, pyModule := Value.str (Str.ofString "law_ij0121_01") 424, code := Value.ref 197 } }
noncomputable def ob199 (P : Params) : Obj := { cls := Value.type "tuple", data := Data.seq #[] }
noncomputable def ob202 (P : Params) : Obj := { cls := Value.type "code", data := Data.fields #[Value.str (Str.ofString "law") 488, Value.str (Str.ofString "law") 489, Value.str (Str.ofString "/claim/cut.py") 490, Value.int 243 0, Value.int 1 0, Value.int 0 0, Value.int 0 0, Value.int 3 0, Value.ref 199, Value.bool true, Value.int 181 0, Value.ref 200, Value.none, Value.none, Value.none, Value.ref 201, Value.int 491 0, Value.int 243 0, Value.str (Str.ofString "/claim/cut.py") 492] }
noncomputable def ob203 (P : Params) : Obj := { cls := Value.type "function", data := Data.func { name := Str.ofString "law", qualname := Str.ofString "law", params := (fnAt (topAt 30)).1, body := FuncBody.stmts (fnAt (topAt 30)).2.1, scope := (fnAt (topAt 30)).2.2, globals := 3, closure := [], defaults := Value.none, kwdefaults := Value.none, pyModule := Value.str (Str.ofString "law_ij0121_01") 424, code := Value.ref 202 } }
noncomputable def heapK (P : Params) : PySem.W.Frag := (nat_lit 2, ob2 P) :: (nat_lit 3, ob3 P) :: (nat_lit 15, ob15 P) :: (nat_lit 17, ob17 P) :: (nat_lit 18, ob18 P) :: (nat_lit 20, ob20 P) :: (nat_lit 21, ob21 P) :: (nat_lit 29, ob29 P) :: (nat_lit 31, ob31 P) :: (nat_lit 32, ob32 P) :: (nat_lit 34, ob34 P) :: (nat_lit 35, ob35 P) :: (nat_lit 36, ob36 P) :: (nat_lit 38, ob38 P) :: (nat_lit 39, ob39 P) :: (nat_lit 41, ob41 P) :: (nat_lit 42, ob42 P) :: (nat_lit 43, ob43 P) :: (nat_lit 50, ob50 P) :: (nat_lit 52, ob52 P) :: (nat_lit 53, ob53 P) :: (nat_lit 55, ob55 P) :: (nat_lit 56, ob56 P) :: (nat_lit 57, ob57 P) :: (nat_lit 58, ob58 P) :: (nat_lit 59, ob59 P) :: (nat_lit 62, ob62 P) :: (nat_lit 69, ob69 P) :: (nat_lit 71, ob71 P) :: (nat_lit 72, ob72 P) :: (nat_lit 74, ob74 P) :: (nat_lit 75, ob75 P) :: (nat_lit 76, ob76 P) :: (nat_lit 78, ob78 P) :: (nat_lit 79, ob79 P) :: (nat_lit 81, ob81 P) :: (nat_lit 82, ob82 P) :: (nat_lit 83, ob83 P) :: (nat_lit 85, ob85 P) :: (nat_lit 86, ob86 P) :: (nat_lit 88, ob88 P) :: (nat_lit 89, ob89 P) :: (nat_lit 90, ob90 P) :: (nat_lit 91, ob91 P) :: (nat_lit 92, ob92 P) :: (nat_lit 95, ob95 P) :: (nat_lit 97, ob97 P) :: (nat_lit 98, ob98 P) :: (nat_lit 100, ob100 P) :: (nat_lit 101, ob101 P) :: (nat_lit 102, ob102 P) :: (nat_lit 104, ob104 P) :: (nat_lit 105, ob105 P) :: (nat_lit 107, ob107 P) :: (nat_lit 108, ob108 P) :: (nat_lit 109, ob109 P) :: (nat_lit 111, ob111 P) :: (nat_lit 112, ob112 P) :: (nat_lit 114, ob114 P) :: (nat_lit 115, ob115 P) :: (nat_lit 116, ob116 P) :: (nat_lit 118, ob118 P) :: (nat_lit 119, ob119 P) :: (nat_lit 121, ob121 P) :: (nat_lit 122, ob122 P) :: (nat_lit 123, ob123 P) :: (nat_lit 125, ob125 P) :: (nat_lit 126, ob126 P) :: (nat_lit 128, ob128 P) :: (nat_lit 129, ob129 P) :: (nat_lit 130, ob130 P) :: (nat_lit 132, ob132 P) :: (nat_lit 133, ob133 P) :: (nat_lit 135, ob135 P) :: (nat_lit 136, ob136 P) :: (nat_lit 137, ob137 P) :: (nat_lit 139, ob139 P) :: (nat_lit 140, ob140 P) :: (nat_lit 142, ob142 P) :: (nat_lit 143, ob143 P) :: (nat_lit 144, ob144 P) :: (nat_lit 146, ob146 P) :: (nat_lit 147, ob147 P) :: (nat_lit 149, ob149 P) :: (nat_lit 150, ob150 P) :: (nat_lit 154, ob154 P) :: (nat_lit 157, ob157 P) :: (nat_lit 158, ob158 P) :: (nat_lit 159, ob159 P) :: (nat_lit 161, ob161 P) :: (nat_lit 162, ob162 P) :: (nat_lit 164, ob164 P) :: (nat_lit 165, ob165 P) :: (nat_lit 166, ob166 P) :: (nat_lit 168, ob168 P) :: (nat_lit 169, ob169 P) :: (nat_lit 171, ob171 P) :: (nat_lit 172, ob172 P) :: (nat_lit 173, ob173 P) :: (nat_lit 175, ob175 P) :: (nat_lit 176, ob176 P) :: (nat_lit 178, ob178 P) :: (nat_lit 179, ob179 P) :: (nat_lit 180, ob180 P) :: (nat_lit 182, ob182 P) :: (nat_lit 183, ob183 P) :: (nat_lit 185, ob185 P) :: (nat_lit 186, ob186 P) :: (nat_lit 187, ob187 P) :: (nat_lit 190, ob190 P) :: (nat_lit 191, ob191 P) :: (nat_lit 192, ob192 P) :: (nat_lit 194, ob194 P) :: (nat_lit 195, ob195 P) :: (nat_lit 197, ob197 P) :: (nat_lit 198, ob198 P) :: (nat_lit 199, ob199 P) :: (nat_lit 202, ob202 P) :: (nat_lit 203, ob203 P) :: []
noncomputable def heapKs : List Nat := 2 :: 3 :: 15 :: 17 :: 18 :: 20 :: 21 :: 29 :: 31 :: 32 :: 34 :: 35 :: 36 :: 38 :: 39 :: 41 :: 42 :: 43 :: 50 :: 52 :: 53 :: 55 :: 56 :: 57 :: 58 :: 59 :: 62 :: 69 :: 71 :: 72 :: 74 :: 75 :: 76 :: 78 :: 79 :: 81 :: 82 :: 83 :: 85 :: 86 :: 88 :: 89 :: 90 :: 91 :: 92 :: 95 :: 97 :: 98 :: 100 :: 101 :: 102 :: 104 :: 105 :: 107 :: 108 :: 109 :: 111 :: 112 :: 114 :: 115 :: 116 :: 118 :: 119 :: 121 :: 122 :: 123 :: 125 :: 126 :: 128 :: 129 :: 130 :: 132 :: 133 :: 135 :: 136 :: 137 :: 139 :: 140 :: 142 :: 143 :: 144 :: 146 :: 147 :: 149 :: 150 :: 154 :: 157 :: 158 :: 159 :: 161 :: 162 :: 164 :: 165 :: 166 :: 168 :: 169 :: 171 :: 172 :: 173 :: 175 :: 176 :: 178 :: 179 :: 180 :: 182 :: 183 :: 185 :: 186 :: 187 :: 190 :: 191 :: 192 :: 194 :: 195 :: 197 :: 198 :: 199 :: 202 :: 203 :: []
noncomputable def viewKeep : List Nat := [0, 1, 3, 5, 7, 9, 10, 12, 14, 15, 17, 18, 19, 20, 22, 24, 25, 26, 27, 28, 29, 30]
noncomputable def viewQ : Program := { PySem.Challenge.rw_ij0121_01.row.toRowW.prog with main := { PySem.Challenge.rw_ij0121_01.row.toRowW.prog.main with body := viewKeep.filterMap topAt } }
set_option maxHeartbeats 8000000 in
theorem heapKs_eq : ∀ P, heapKs = (heapK P).map (·.1) := fun _ => by kernel_rfl
noncomputable abbrev theHook := PySem.W.kHook heapK heapKs heapKs_eq
end Mine

theorem Mine.quietSD : True := by
  w_top off
  trivial
set_option maxHeartbeats 0 in
theorem Mine.saidLooks : looksOpen PySem.Challenge.rw_ij0121_01.row.prog = true := by
  unfold looksOpen
  repeat' (with_reducible refine look_both ?_ ?_)
  all_goals kernel_rfl
set_option maxHeartbeats 0 in
theorem Mine.saidRow : PySem.Challenge.rw_ij0121_01.row.wellSaid = true := by
  unfold OpenRow.wellSaid OpenRow.partSaid
  repeat' (with_reducible refine look_both ?_ ?_)
  all_goals first | with_reducible exact Mine.saidLooks | kernel_rfl
set_option maxHeartbeats 0 in
theorem Mine.said : PySem.Challenge.rw_ij0121_01.wellSaid = true := by
  unfold OpenLaw.wellSaid
  repeat' (with_reducible refine look_both ?_ ?_)
  all_goals first | with_reducible exact Mine.saidRow | kernel_rfl

theorem Mine.quietHL : True := by
  w_top off
  trivial
set_option maxHeartbeats 0 in
theorem Mine.left : LeftO PySem.Challenge.rw_ij0121_01.row.toRowW.prog Mine.viewQ [] (fun s => xlAt Mine.viewQ [] s && recOk (RowW.records (OpenRow.toRowW PySem.Challenge.rw_ij0121_01.row)) s) (Hook.obs (kHook Mine.heapK Mine.heapKs Mine.heapKs_eq)) (Hook.val (kHook Mine.heapK Mine.heapKs Mine.heapKs_eq)) 3188 := by
  refine LeftO.of_split "special-get-raises" ?_
  intro w
  delta fencedOpening topFrom
  rw [PySem.W.Fast.te14364793385576792824, PySem.W.Fast.te10274390034422433532, PySem.W.Fast.te14289696077712309145, PySem.W.Fast.te14082659384304107361, PySem.W.Fast.te1435165496053646825, PySem.W.Fast.te4187177175401517315]
  kernel_rfl

theorem Mine.quietR1 : True := by
  w_top off
  trivial
namespace Mine
section
variable {prog : Program} {w : World} {A : Around} {E : Value → Shared → Prop} {s : Shared}

theorem iss_one {T C : String} {v : Bool} {k : Value} {dep : Int} {tk : Tok} {Q : Fin → Shared → Prop} (hk : k = .int dep tk)
    (hC : (Value.type ((Manifest.find? C).elim "type" (·.metatype)) == Value.type "type") = true)
    (hself : isSubtype (.type T) (.type C) = pure v) (hq : Q (.done (.ret (.bool v))) s) :
    wpAny (model prog w) A (Builtin.«issubclass.nested» ⟨[.type T, .type C, k], []⟩) Q E s := by
  subst hk
  have hm := hC
  repeat (any_goals (first | assumption | (rw [if_pos hm]) | (rw [hself]) | wp_step))

theorem iss_items {T : String} {dep : Int} : ∀ (cs : List (String × Bool)) (s : Shared) (Q : Option Fin × Unit → Shared → Prop),
    (∀ c ∈ cs, (Value.type ((Manifest.find? c.1).elim "type" (·.metatype)) == Value.type "type") = true ∧ isSubtype (.type T) (.type c.1) = pure c.2) →
    (∀ tk, Q (if cs.any (·.2) then some (.done (.ret (.bool true))) else none, ()) { s with toks := tk }) →
    wpAny (model prog w) A (forIn (cs.map fun c => Value.type c.1) ((none : Option Fin), ()) fun c _ => do
      if ← truthy (← call (.builtin "issubclass.nested") [.type T, c, rawInt (dep + 1)]) then
        let r ← ret (.bool true)
        pure (ForInStep.done (some r, ()))
      else pure (ForInStep.yield (none, ()))) Q E s
  | [], s, Q, _, h => wpAny_pure (h s.toks)
  | c :: cs, s, Q, ha, h => by
    rw [List.map_cons, List.forIn_cons]
    refine wpAny_bind (wpAny_bind (call_function_meets (S := fun _ R s => R (.ok (.ret (.bool c.2))) s) (by decide +kernel) (by decide +kernel) F.entry_issubclass_nested (by unfold argsOk; kernel_rfl) (fun _ _ _ _ _ hs => iss_one rfl (ha c (.head _)).1 (ha c (.head _)).2 hs) ?_))
    show wpAny _ _ (truthy (.bool c.2) >>= _) _ _ _
    refine wpAny_bind (m := truthy (.bool c.2)) (wpAny_pure ?_)
    obtain ⟨c1, v⟩ := c
    cases v with
    | true => exact wpAny_bind (wpAny_pure (wpAny_pure (wpAny_pure (h _))))
    | false => exact wpAny_pure (iss_items cs _ Q (fun c hc => ha c (.tail _ hc)) fun tk => h tk)

theorem iss_tuple {T : String} {tp : Addr} {k : Nat} {cs : List (String × Bool)} {tk : Tok} {Q : Fin → Shared → Prop}
    (htp : s.heap.get? tp = some { cls := .type "tuple", data := .seq (cs.map fun c => Value.type c.1).toArray k })
    (ha : ∀ c ∈ cs, (Value.type ((Manifest.find? c.1).elim "type" (·.metatype)) == Value.type "type") = true ∧ isSubtype (.type T) (.type c.1) = pure c.2)
    (hq : ∀ tk', Q (.done (.ret (.bool (cs.any (·.2))))) { s with toks := tk' }) : wpAny (model prog w) A (Builtin.«issubclass.nested» ⟨[.type T, .ref tp, .int 0 tk], []⟩) Q E s := by
  obtain ⟨h, g, d, t, os⟩ := s
  have hT2 : (⟨h, g, d, t, os⟩ : Shared).TypeIs (.ref tp) "tuple" := ⟨_, htp, rfl⟩
  have f1 := F.isi_sub_tuple
  repeat (any_goals (first | assumption | wp_step))
  refine wpAny_arrayLoop ?_
  simp only [Option.getD_some, List.toList_toArray]
  refine iss_items (dep := 0) cs _ _ ha fun tk' => ?_
  cases hv : cs.any (·.2) with
  | true =>
    simp only [if_true]
    repeat (any_goals (first | assumption | wp_step))
    exact hv ▸ hq tk'
  | false =>
    simp only [Bool.false_eq_true, if_false]
    repeat (any_goals (first | assumption | wp_step))
    exact hv ▸ hq tk'

theorem iss_call {T : String} {tp : Addr} {k : Nat} {cs : List (String × Bool)} {Q : Value → Shared → Prop}
    (htp : s.heap.get? tp = some { cls := .type "tuple", data := .seq (cs.map fun c => Value.type c.1).toArray k })
    (ha : ∀ c ∈ cs, (Value.type ((Manifest.find? c.1).elim "type" (·.metatype)) == Value.type "type") = true ∧ isSubtype (.type T) (.type c.1) = pure c.2)
    (hq : ∀ tk', Q (.bool (cs.any (·.2))) { s with toks := tk' }) : wpAny (model prog w) A (call (.builtin "issubclass") [.type T, .ref tp]) Q E s :=
  call_issubclass (S := fun _ R s => s.heap.get? tp = some { cls := .type "tuple", data := .seq (cs.map fun c => Value.type c.1).toArray k } ∧ ∀ tk, R (.ok (.ret (.bool (cs.any (·.2))))) { s with toks := tk })
    (fun _ _ _ _ _ hs => issubclass_outer (iss_tuple hs.1 ha hs.2)) ⟨htp, hq⟩

theorem iss_str {tp : Addr} {k : Nat} {Q : Value → Shared → Prop}
    (htp : s.heap.get? tp = some { cls := .type "tuple", data := .seq [Value.type "str", Value.type "bytes"].toArray k })
    (hq : ∀ tk', Q (.bool true) { s with toks := tk' }) : wpAny (model prog w) A (call (.builtin "issubclass") [.type "str", .ref tp]) Q E s :=
  iss_call (cs := [("str", true), ("bytes", false)]) htp (by
    intro c hc
    rcases List.mem_cons.mp hc with rfl | hc
    · exact ⟨by decide +kernel, by rw [isSubtype_type]; kernel_rfl⟩
    · rw [List.mem_singleton.mp hc]; exact ⟨by decide +kernel, by rw [isSubtype_type]; kernel_rfl⟩) hq
theorem iss_bytes {tp : Addr} {k : Nat} {Q : Value → Shared → Prop}
    (htp : s.heap.get? tp = some { cls := .type "tuple", data := .seq [Value.type "str", Value.type "bytes"].toArray k })
    (hq : ∀ tk', Q (.bool true) { s with toks := tk' }) : wpAny (model prog w) A (call (.builtin "issubclass") [.type "bytes", .ref tp]) Q E s :=
  iss_call (cs := [("str", false), ("bytes", true)]) htp (by
    intro c hc
    rcases List.mem_cons.mp hc with rfl | hc
    · exact ⟨by decide +kernel, by rw [isSubtype_type]; kernel_rfl⟩
    · rw [List.mem_singleton.mp hc]; exact ⟨by decide +kernel, by rw [isSubtype_type]; kernel_rfl⟩) hq
end
end Mine

local macro_rules | `(tactic| walk_at "call builtin:issubclass") => `(tactic| ((with_reducible show wpAny _ _ (call _ [Value.type "str", Value.ref _]) _ _ _); ((with_unfolding_all refine' Mine.iss_str ?k1 ?_); (case k1 => exact News.get (by k_asm) (by k_mem))); intro tk'))
local macro_rules | `(tactic| walk_at "call builtin:issubclass") => `(tactic| ((with_reducible show wpAny _ _ (call _ [Value.type "bytes", Value.ref _]) _ _ _); ((with_unfolding_all refine' Mine.iss_bytes ?k1 ?_); (case k1 => exact News.get (by k_asm) (by k_mem))); intro tk'))
local macro_rules | `(tactic| walk_at "call type:type") => `(tactic| ((with_reducible show wpAny _ _ (call _ [Value.bytes _ _]) _ _ _); refine call_type_of (Tx := "bytes") rfl (by decide +kernel) ?_))
theorem Mine.quietR2 : True := by
  w_top off
  trivial
namespace Mine
section
variable {prog : Program} {w : World} {A : Around} {E : Value → Shared → Prop} {s : Shared}
theorem look_buffer_str : typeLookup (.type "str") "__buffer__" = pure none := by rw [typeLookup_type, builtinLookup_eq_fast]; kernel_rfl
theorem buffer_str {x : Str} {u : Tok} {id : String} : Builtin.Bytes.buffer? id (.str x u) = pure none := by
  have e : ∀ name, specialOf (.str x u) name = typeLookup (.type "str") name := fun _ => rfl
  unfold Builtin.Bytes.buffer?
  rw [e, look_buffer_str]
  rfl
theorem quiet_str {x : Str} {u : Tok} {id : String} : Builtin.Bytes.bufferQuiet? id (.str x u) = pure none := by
  unfold Builtin.Bytes.bufferQuiet?
  rw [buffer_str]
  rfl
theorem meets_add_str (b : Array UInt8) (t : Tok) (x : Str) (u : Tok) : Meets (Builtin.«bytes.__add__» ⟨[.bytes b t, .str x u], []⟩) (raisesNew "TypeError") := by
  refine .of_wp fun prog w A R s hS => ?_
  obtain ⟨hh, h⟩ := hS
  show wpAny _ _ (Builtin.Bytes.buffer? "bytes.__add__" (.bytes b t) >>= fun r => _) _ _ s
  refine wpAny_bind (wpAny_of_eq KBy.buffer_eq ?_)
  show wpAny _ _ (Builtin.Bytes.bufferQuiet? "bytes.__add__" (.str x u) >>= fun r => _) _ _ s
  refine wpAny_bind (wpAny_of_eq quiet_str ?_)
  refine wpAny_bind (wpAny_rule ?_)
  refine wpAny_bind (wpAny_typeNameOf' (typeIs_str _ _ _) (by decide) ?_)
  refine wpAny_bind (wpAny_typeNameOf' (typeIs_bytes _ _ _) (by decide) ?_)
  exact wpAny_raiseTypeError hh h (by decide +kernel)
theorem add_bytes_str {b : Array UInt8} {t : Tok} {x : Str} {u : Tok} {Q : Value → Shared → Prop} (hh : A.handled = none)
    (h : ∀ h' tk e, Heap.NewExc s.heap h' e "TypeError" → E (.ref e) { s with heap := h', toks := tk }) : wpAny (model prog w) A (binaryOp .Add (.bytes b t) (.str x u)) Q E s := by
  have h1 := KBy.noFill_bytes_add
  have h2 := PySem.noFill_str_add
  have h5 := KBy.seq_bytes_add
  have h3 := typeIs_bytes s b t
  have h4 := typeIs_str s x u
  unfold binaryOp
  refine wpAny_holding ?_
  refine wpAny_bind (m := binaryOp1 "add" (.bytes b t) (.str x u)) ?_
  · unfold binaryOp1
    refine wpAny_bind (wpAny_typeOf h3 (wpAny_bind (wpAny_typeOf h4 (wpAny_bind (wpAny_of_eq h1 ?_)))))
    have e : (Value.type "bytes" == Value.type "str") = false := by decide
    simp only [e, Bool.false_eq_true, if_false]
    refine wpAny_bind (wpAny_of_eq h2 ?_)
    repeat (any_goals (first | assumption | exact call_meets FB.slot_bytes_add h3 FB.entry_bytes_add (FB.args_bytes_add_2 _ _) (meets_add_str b t x u) ⟨hh, h⟩ | wp_step))
end
end Mine

local macro_rules | `(tactic| walk_at "binaryOp Add bytes str") => `(tactic| ((with_reducible show wpAny _ _ (binaryOp _ (Value.bytes _ _) (Value.str _ _)) _ _ _); refine Mine.add_bytes_str rfl ?_; intro h' tk' e' hx'))
theorem Mine.quietP1 : True := by
  w_top off
  trivial
namespace Mine
open Builtin Builtin.Str
abbrev S (l : List Nat) : Str := ⟨l.toArray⟩
abbrev tl (x : Str) : List Nat := x.cps.toList
theorem S_tl (x : Str) : S (tl x) = x := Str.ext' (by simp [S, tl])
theorem tl_S (l : List Nat) : tl (S l) = l := by simp [S, tl]
theorem len_S (l : List Nat) : (S l).length = l.length := by simp [S, Str.length]
theorem len_tl (x : Str) : (tl x).length = x.length := by simp [tl, Str.length]
theorem S_inj {a b : List Nat} (h : S a = S b) : a = b := by have := congrArg tl h; rwa [tl_S, tl_S] at this
theorem S_append (a b : List Nat) : S a ++ S b = S (a ++ b) := Str.ext' (by rw [Str.cps_append]; simp [S])
theorem S_eq_iff {a b : List Nat} : S a = S b ↔ a = b := ⟨S_inj, fun h => h ▸ rfl⟩

theorem slice_ss (l : List Nat) (a b : Nat) : Txt.slice (S l) (some (a : Int)) (some (b : Int)) = S ((l.take b).drop a) := by
  have hlen : (S l).length = l.length := len_S l
  have hclip : ∀ a b : Nat, strSliceIndices (some (a : Int)) (some (b : Int)) 1 l.length = strSliceIndices (some ((min a l.length : Nat) : Int)) (some ((min b l.length : Nat) : Int)) 1 l.length := by
    intro a b
    have h1 : ¬ ((a : Int) < 0) := by omega
    have h2 : ¬ ((b : Int) < 0) := by omega
    have h3 : ¬ (((min a l.length : Nat) : Int) < 0) := by omega
    have h4 : ¬ (((min b l.length : Nat) : Int) < 0) := by omega
    have e1 : max (0 : Int) (min (a : Int) (l.length : Int)) = max (0 : Int) (min ((min a l.length : Nat) : Int) (l.length : Int)) := by omega
    have e2 : max (0 : Int) (min (b : Int) (l.length : Int)) = max (0 : Int) (min ((min b l.length : Nat) : Int) (l.length : Int)) := by omega
    simp only [strSliceIndices, h1, h2, h3, h4, if_false, show ((1 : Int) > 0) = True from by simp, if_true, e1, e2]
  have e : Txt.slice (S l) (some (a : Int)) (some (b : Int)) = Txt.slice (S l) (some ((min a l.length : Nat) : Int)) (some ((min b l.length : Nat) : Int)) := by
    unfold Txt.slice
    rw [hlen, hclip a b]
  rw [e]
  rcases Nat.le_total (min a l.length) (min b l.length) with h | h
  · have g : Txt.slice (S l) (some ((min a l.length : Nat) : Int)) (some ((min b l.length : Nat) : Int)) = _ := StrLaws.sliceText_nat (S l) h (by rw [hlen]; omega)
    rw [g]
    have e2 : (S l).cps.toList = l := tl_S l
    rw [e2]
    apply S_eq_iff.mpr
    rw [List.drop_take]
    apply List.ext_getElem?
    intro i
    simp only [List.getElem?_take, List.getElem?_drop]
    rcases Nat.lt_or_ge a l.length with ha | ha
    · rw [Nat.min_eq_left (Nat.le_of_lt ha)]
      by_cases h1 : i < min b l.length - a
      · rw [if_pos h1, if_pos (by omega)]
      · rw [if_neg h1]
        split
        · rw [List.getElem?_eq_none (by omega)]
        · rfl
    · rw [Nat.min_eq_right ha]
      rw [List.getElem?_eq_none (i := l.length + i) (by omega), List.getElem?_eq_none (i := a + i) (by omega)]
      simp
  · have hr : strSliceIndices (some ((min a l.length : Nat) : Int)) (some ((min b l.length : Nat) : Int)) 1 l.length = [] := by
      have h1 : ¬ (((min a l.length : Nat) : Int) < 0) := by omega
      have h2 : ¬ (((min b l.length : Nat) : Int) < 0) := by omega
      have e1 : max (0 : Int) (min ((min a l.length : Nat) : Int) (l.length : Int)) = ((min a l.length : Nat) : Int) := by omega
      have e2 : max (0 : Int) (min ((min b l.length : Nat) : Int) (l.length : Int)) = ((min b l.length : Nat) : Int) := by omega
      simp only [strSliceIndices, sliceRange, h1, h2, if_false, e1, e2, show ((1 : Int) > 0) = True from by simp, if_true]
      have h3 : ¬ (((min a l.length : Nat) : Int) < ((min b l.length : Nat) : Int)) := by omega
      simp [h3]
    unfold Txt.slice
    rw [hlen, hr]
    have hd : (l.take b).drop a = [] := List.drop_eq_nil_iff.mpr (by rw [List.length_take]; omega)
    rw [hd]
    split
    · rename_i h5
      have : l = [] := by
        cases l with
        | nil => rfl
        | cons c r => simp at h5
      rw [this]
    · rfl
theorem slice_ns (l : List Nat) (b : Nat) : Txt.slice (S l) none (some (b : Int)) = S (l.take b) := by
  have e : Txt.slice (S l) none (some (b : Int)) = Txt.slice (S l) (some ((0 : Nat) : Int)) (some (b : Int)) := by
    unfold Txt.slice; rw [StrLaws.sliceIdx_none_lo]; rfl
  rw [e, slice_ss, List.drop_zero]
theorem slice_sn (l : List Nat) (a : Nat) : Txt.slice (S l) (some (a : Int)) none = S (l.drop a) := by
  have e : Txt.slice (S l) (some (a : Int)) none = Txt.slice (S l) (some (a : Int)) (some (((S l).length : Nat) : Int)) := by
    unfold Txt.slice; rw [StrLaws.sliceIdx_none_hi]
  rw [e, slice_ss, len_S, List.take_length]
theorem S_dot : Str.ofString "." = S [46] := by decide
theorem S_slash : Str.ofString "/" = S [47] := by decide
theorem S_nil : Str.ofString "" = S [] := by decide
theorem S_empty : Str.empty = S [] := rfl
theorem one_dot (l : List Nat) (n : Nat) : (Txt.slice (S l) (some (n : Int)) (some ((n : Int) + 1)) == Str.ofString ".") = decide (l[n]? = some 46) := by
  have e : ((n : Int) + 1) = ((n + 1 : Nat) : Int) := by omega
  rw [e, slice_ss, S_dot]
  have h : (S (List.drop n (List.take (n + 1) l)) == S [46]) = decide (List.drop n (List.take (n + 1) l) = [46]) := by
    by_cases h1 : List.drop n (List.take (n + 1) l) = [46]
    · rw [h1]; simp
    · have : S (List.drop n (List.take (n + 1) l)) ≠ S [46] := fun h2 => h1 (S_inj h2)
      simp [h1]
  rw [h]
  congr 1
  apply propext
  rw [List.drop_take, show n + 1 - n = 1 by omega]
  cases h2 : l.drop n with
  | nil =>
    have : l.length ≤ n := List.drop_eq_nil_iff.mp h2
    simp [List.getElem?_eq_none this]
  | cons c r =>
    have : l[n]? = some c := by
      have := congrArg (·[0]?) h2
      simpa [List.getElem?_drop] using this
    simp [this]
end Mine

theorem Mine.quietBase : True := by
  w_top off
  trivial
namespace Mine
theorem lets2 {α : Type} {M : Model} {A : Around} {t : Sem α} {Q : α → Shared → Prop} {E : Value → Shared → Prop} {s : Shared} (h : let m := M; let a := A; wpAny m a t Q E s) : wpAny M A t Q E s := h
theorem letE {M : Model} {A : Around} {b : List Stmt} {e : Env} {Q : Flow → Shared → Prop} {E : Value → Shared → Prop} {s : Shared} (h : let v := e; wpAny M A (execs b v) Q E s) : wpAny M A (execs b e) Q E s := h
abbrev Led := List (Addr × Obj)
def Ct (w : World) (mean : ExcName → Option Value) (mg mb : Str → Option Value) (k : Nat) (f : Addr) (vs : List Value) (Pre : Led → Prop) (Post : Led → Value → Prop) : Prop :=
  ∀ (dp un : Nat) (gd : Option (List Code)) (cn : Str) (cs : Scope) (a : Addr) (ccd : Value) (cl : List (Str × Addr)) (outer : List Env) (A₀ : Around) (base h₀ : Heap) (L : Addr) (m : Str → Option Value) (news : Led) (s : Shared) (Q E : Value → Shared → Prop),
    Below A₀ base outer h₀ → Fr h₀ L s.heap m → (Mine.heapK w.params).In h₀ → News h₀ L s.heap news → Top Mine.viewQ (looseW Mine.viewQ []) mean mg mb h₀ → cs.kind = .function →
    Pre news → dp + k < recursionLimit → un + 8 * k < cLine →
    (∀ r tl h' tk', Fr h₀ L h' m → News h₀ L h' (tl ++ news) → Post tl r → Q r { s with heap := h', toks := tk' }) →
    wpAny (model PySem.Challenge.rw_ij0121_01.row.prog w) (ktrTop dp un gd cn cs L a ccd cl outer) (call (.ref f) vs) Q E s

theorem Ct.use {w mean mg mb} {k : Nat} {f : Addr} {vs : List Value} {Pre : Led → Prop} {Post : Led → Value → Prop} (C : Ct w mean mg mb k f vs Pre Post) {dp un : Nat} {gd : Option (List Code)} {cn : Str} {cs : Scope} {a : Addr} {ccd : Value} {cl : List (Str × Addr)} {outer : List Env} {A₀ : Around} {base h₀ : Heap} {L : Addr} {m : Str → Option Value} {news : Led} {s : Shared} {Q E : Value → Shared → Prop}
    (B : Below A₀ base outer h₀) (F : Fr h₀ L s.heap m) (X : (Mine.heapK w.params).In h₀) (N : News h₀ L s.heap news) (T : Top Mine.viewQ (looseW Mine.viewQ []) mean mg mb h₀) (hk : cs.kind = .function)
    (hp : Pre news) (hd : dp + k < recursionLimit) (hu : un + 8 * k < cLine)
    (ret : ∀ r tl h' tk', Fr h₀ L h' m → News h₀ L h' (tl ++ news) → Post tl r → Q r { s with heap := h', toks := tk' }) :
    wpAny (model PySem.Challenge.rw_ij0121_01.row.prog w) (ktrTop dp un gd cn cs L a ccd cl outer) (call (.ref f) vs) Q E s := C _ _ _ _ _ _ _ _ _ _ _ _ _ _ _ _ _ _ B F X N T hk hp hd hu ret
theorem led1 {h₀ h : Heap} {L : Addr} {q : Addr × Obj} {rest news : Led} (N : News h₀ L h (q :: rest)) (hs : ∀ p ∈ news, p ∈ rest) : News h₀ L h ([q] ++ news) := cb_drop N fun p hp => by
  rcases List.mem_append.mp hp with hp | hp
  · rw [List.mem_singleton.mp hp]; exact .head _
  · exact .tail _ (hs p hp)
theorem led1x {h₀ h : Heap} {L : Addr} {q q2 : Addr × Obj} {rest news : Led} (N : News h₀ L h (q :: rest)) (hm : q2 ∈ rest) (hs : ∀ p ∈ news, p ∈ rest) : News h₀ L h ([q, q2] ++ news) := cb_drop N fun p hp => by
  rcases List.mem_append.mp hp with hp | hp
  · rcases List.mem_cons.mp hp with rfl | hp
    · exact .head _
    · rw [List.mem_singleton.mp hp]; exact .tail _ hm
  · exact .tail _ (hs p hp)
theorem ltAll {l : Led} {d : Addr} {q : Addr × Obj} (h : ∀ p ∈ l, p.1 < d) (hm : q ∈ l) : q.1 < d := h q hm
theorem led3 {h₀ h : Heap} {L : Addr} {q q2 q3 : Addr × Obj} {rest news : Led} (N : News h₀ L h (q :: q2 :: q3 :: rest)) (hs : ∀ p ∈ news, p ∈ rest) : News h₀ L h ([q, q2, q3] ++ news) := cb_drop N fun p hp => by
  rcases List.mem_append.mp hp with hp | hp
  · rcases List.mem_cons.mp hp with rfl | hp
    · exact .head _
    · rcases List.mem_cons.mp hp with rfl | hp
      · exact .tail _ (.head _)
      · rw [List.mem_singleton.mp hp]; exact .tail _ (.tail _ (.head _))
  · exact .tail _ (.tail _ (.tail _ (hs p hp)))
theorem led2 {h₀ h : Heap} {L : Addr} {q q2 : Addr × Obj} {rest news : Led} (N : News h₀ L h (q :: q2 :: rest)) (hs : ∀ p ∈ news, p ∈ rest) : News h₀ L h ([q, q2] ++ news) := cb_drop N fun p hp => by
  rcases List.mem_append.mp hp with hp | hp
  · rcases List.mem_cons.mp hp with rfl | hp
    · exact .head _
    · rw [List.mem_singleton.mp hp]; exact .tail _ (.head _)
  · exact .tail _ (.tail _ (hs p hp))
end Mine

local macro_rules | `(tactic| ktr_units) => `(tactic| ((have hcL9 := cLine_is); (simp +zetaDelta only [units_in1, units_deeper, Around.mark_units, units_caller]); (try dsimp only [ktrTop]); omega))
local macro_rules | `(tactic| ktr_room) => `(tactic| ((simp +zetaDelta only [depth_under_make, depth_under_kw, depth_in1, depth_deeper, depth_caller]); (try dsimp only [ktrTop]); omega))
theorem Mine.quietL1 : True := by
  w_top off
  trivial
namespace Mine
section
variable {prog : Program} {w : World} {A : Around} {E : Value → Shared → Prop} {s : Shared} {env : Env} {h₀ : Heap} {x : Str} {body : List Stmt} {Q : Flow → Shared → Prop}

def LEnd (h₀ : Heap) (L : Addr) (J : (Str → Option Value) → Led → Prop) (I : Addr) (own : Led) (s₁ s₂ : Shared) : Prop :=
  ∃ h' tk m' news' nx, s₂ = { s₁ with heap := h', toks := tk } ∧ Fr h₀ L h' m' ∧ News h₀ L h' news' ∧ (∀ p ∈ nx, p ∈ news') ∧ (∀ p ∈ own, p ∈ news') ∧ (∀ p ∈ nx, p.1 ≠ I) ∧ J m' nx
def LPost (h₀ : Heap) (L : Addr) (J : (Str → Option Value) → Led → Prop) (I : Addr) (own : Led) (s₁ : Shared) (Q : Flow → Shared → Prop) (f : Flow) (s₂ : Shared) : Prop :=
  match f with
  | .ret v => Q (.ret v) s₂
  | .brk => Q .next s₂
  | _ => LEnd h₀ L J I own s₁ s₂
theorem LEnd.intro {L : Addr} {J : (Str → Option Value) → Led → Prop} {m' : Str → Option Value} {I : Addr} {own news' : Led} {s₁ : Shared} {h' : Heap} {tk : Nat} (nx : Led) (F : Fr h₀ L h' m') (N : News h₀ L h' news')
    (hn : ∀ p ∈ nx, p ∈ news') (ho : ∀ p ∈ own, p ∈ news') (ha : ∀ p ∈ nx, p.1 ≠ I) (hj : J m' nx) : LEnd h₀ L J I own s₁ { s₁ with heap := h', toks := tk } := ⟨h', tk, m', news', nx, rfl, F, N, hn, ho, ha, hj⟩

theorem loopW {I : Addr} {fp : List Addr} {n : Nat} {P : Nat → Value → Prop} {St : Nat → Heap → Prop} {m₀ : Str → Option Value} {news₀ : Led} {s₂ : Shared} (J : Nat → (Str → Option Value) → Led → Prop)
    (W : Walks prog w A I fp [I] n P St) (hfp : env.locals ∉ fp) (hIfp : I ∈ fp) (hI : h₀.get? I = none) (hSt : ∀ i h, St i h → ∃ o, h.get? I = some o) (hst : St 0 s₂.heap) (F : Fr h₀ env.locals s₂.heap m₀) (N : News h₀ env.locals s₂.heap news₀) (hn : ∀ p ∈ news₀, p.1 ≠ I) (hj : J 0 m₀ news₀)
    (turn : ∀ i v m₁ nx h tk own oI, i < n → P i v → J i m₁ nx → (∀ p ∈ nx, p.1 ≠ I) → (I, oI) ∈ own → (∀ p ∈ own, p.1 ∈ fp ∧ h.get? p.1 = some p.2) → Fr h₀ env.locals h (fun y => if y = x then some v else m₁ y) → News h₀ env.locals h (nx ++ own) →
      wpAny (model prog w) A (execs body env) (LPost h₀ env.locals (J (i + 1)) I own { s₂ with heap := h, toks := tk } Q) E { s₂ with heap := h, toks := tk })
    (done : ∀ m₁ nx h tk, J n m₁ nx → Fr h₀ env.locals h m₁ → News h₀ env.locals h nx → Q .next { s₂ with heap := h, toks := tk }) :
    LoopAtV prog w A h₀ env x body Q E (.ref I) s₂ := by
  refine ⟨I, fp, [I], n, P, St, m₀, news₀, J, rfl, W, hfp, ?_, ?_, hst, F, N, hj, ?_, ?_⟩
  · intro b hb; rw [List.mem_singleton.mp hb]; exact hI
  · intro p hp hb; exact hn p hp (List.mem_singleton.mp hb)
  · rintro i v m₁ nx s₁ own ⟨hh', tk', rfl⟩ hin hP hJ hoff hown hat hall hst' F₁ N₁
    obtain ⟨oI, hoI⟩ := hSt _ _ hst'
    have hIown : (I, oI) ∈ own := hall I hIfp hI oI hoI
    have N₂ : News h₀ env.locals hh' (nx ++ own) := fun p hp => N₁ p ((List.mem_append.mp hp).elim (fun h => List.mem_append.mpr (.inr h)) fun h => List.mem_append.mpr (.inl h))
    refine wpAny_mono (turn i v m₁ nx hh' tk' own oI hin hP hJ (fun p hp e => hoff p hp (List.mem_singleton.mpr e)) hIown (fun p hp => ⟨hown p hp, hat p hp⟩) F₁ N₂) (fun f s₃ p => ?_) fun _ _ e => e
    have fin : LEnd h₀ env.locals (J (i + 1)) I own { s₂ with heap := hh', toks := tk' } s₃ → LoopStepU h₀ env.locals [I] own (J (i + 1)) { s₂ with heap := hh', toks := tk' } .next s₃ := by
      rintro ⟨h', tk, m', news', nx', e, F', N', hn', ho, ha, hm⟩
      exact ⟨rfl, h', tk, m', nx', e, F', fun p hp => N' p ((List.mem_append.mp hp).elim (ho p) (hn' p)), fun p hp hq => ha p hp (List.mem_singleton.mp hq), hm⟩
    cases f with
    | ret v => exact .ret p
    | brk => exact .brk p
    | next => exact .next (fin p)
    | cont => exact .cont (fin p)
  · intro h' tk m' news' F' N' _ hJ
    exact done m' news' h' tk hJ F' N'

theorem loopStr {z : Str} {t : Tok} {m₀ : Str → Option Value} {news : Led} (J : Nat → (Str → Option Value) → Led → Prop) (hh : A.handled = none) (F : Fr h₀ env.locals s.heap m₀) (N : News h₀ env.locals s.heap news) (hj : J 0 m₀ news)
    (turn : ∀ i c u m₁ nx h tk own oI, z.cps[i]? = some c → J i m₁ nx → (∀ p ∈ nx, p.1 ≠ s.heap.objs.size) → (s.heap.objs.size, oI) ∈ own → Fr h₀ env.locals h (fun y => if y = x then some (.str ⟨#[c]⟩ u) else m₁ y) → News h₀ env.locals h (nx ++ own) →
      wpAny (model prog w) A (execs body env) (LPost h₀ env.locals (J (i + 1)) s.heap.objs.size own { s with heap := h, toks := tk } Q) E { s with heap := h, toks := tk })
    (done : ∀ m₁ nx h tk, J z.cps.size m₁ nx → Fr h₀ env.locals h m₁ → News h₀ env.locals h nx → Q .next { s with heap := h, toks := tk }) :
    wpAny (model prog w) A (pyIter (.str z t)) (fun it s₂ => LoopAtV prog w A h₀ env x body Q E it s₂) E s := by
  have hloc : env.locals ∉ [s.heap.objs.size] := fun hm => absurd F.ns.lt (List.mem_singleton.mp hm ▸ Nat.lt_irrefl _)
  have hnew : ∀ p ∈ news, p.1 ≠ s.heap.objs.size := fun p hp e => absurd (Heap.lt_size (N p hp).1) (e ▸ Nat.lt_irrefl _)
  have go : ∀ (o : Obj) (St : Nat → Heap → Prop), Walks prog w A s.heap.objs.size [s.heap.objs.size] [s.heap.objs.size] z.cps.size (SignAt z) St → (∀ i h, St i h → ∃ o, h.get? s.heap.objs.size = some o) → St 0 (s.heap.push o) → LoopAtV prog w A h₀ env x body Q E (.ref s.heap.objs.size) { s with heap := s.heap.push o } := by
    intro o St W hSt h0
    refine loopW J W hloc (.head _) (next_is_new F) hSt h0 (F.push _) (fun p hp => ⟨Heap.get?_push_of_some _ (N p hp).1, (N p hp).2⟩) hnew hj ?_ done
    rintro i v m₁ nx h tk own oI hi ⟨c, u, hc, rfl⟩ hJ ha hown _ F₁ N₁
    exact turn i c u m₁ nx h tk own oI hc hJ ha hown F₁ N₁
  cases ha : z.cps.all (· < 128)
  · exact wpAny_pyIter_wide ha (go _ _ (Walks.strWide hh _ z t) (fun i h ⟨o, ho, _⟩ => ⟨o, ho⟩) ⟨_, Heap.get?_push_size _ rfl, rfl, rfl⟩)
  · exact wpAny_pyIter_ascii ha (go _ _ (Walks.strAscii hh _ z t) (fun i h ⟨o, ho, _⟩ => ⟨o, ho⟩) ⟨_, Heap.get?_push_size _ rfl, rfl, rfl⟩)

theorem loopStrL {z : Str} {t : Tok} {m₀ : Str → Option Value} {news : Led} (J : Nat → (Str → Option Value) → Led → Prop) (hh : A.handled = none) (F : Fr h₀ env.locals s.heap m₀) (N : News h₀ env.locals s.heap news) (hj : J 0 m₀ news)
    (turn : ∀ i c u m₁ nx h tk I oI, z.cps[i]? = some c → J i m₁ nx → (∀ p ∈ nx, p.1 ≠ I) → I = s.heap.objs.size → Fr h₀ env.locals h (fun y => if y = x then some (.str ⟨#[c]⟩ u) else m₁ y) → News h₀ env.locals h (nx ++ [(I, oI)]) →
      wpAny (model prog w) A (execs body env) (LPost h₀ env.locals (J (i + 1)) I [(I, oI)] { s with heap := h, toks := tk } Q) E { s with heap := h, toks := tk })
    (done : ∀ m₁ nx h tk, J z.cps.size m₁ nx → Fr h₀ env.locals h m₁ → News h₀ env.locals h nx → Q .next { s with heap := h, toks := tk }) :
    wpAny (model prog w) A (pyIter (.str z t)) (fun it s₂ => LoopAtV prog w A h₀ env x body Q E it s₂) E s := by
  have hloc : env.locals ∉ [s.heap.objs.size] := fun hm => absurd F.ns.lt (List.mem_singleton.mp hm ▸ Nat.lt_irrefl _)
  have hnew : ∀ p ∈ news, p.1 ≠ s.heap.objs.size := fun p hp e => absurd (Heap.lt_size (N p hp).1) (e ▸ Nat.lt_irrefl _)
  have go : ∀ (o : Obj) (St : Nat → Heap → Prop), Walks prog w A s.heap.objs.size [s.heap.objs.size] [s.heap.objs.size] z.cps.size (SignAt z) St → (∀ i h, St i h → ∃ o, h.get? s.heap.objs.size = some o) → St 0 (s.heap.push o) → LoopAtV prog w A h₀ env x body Q E (.ref s.heap.objs.size) { s with heap := s.heap.push o } := by
    intro o St W hSt h0
    refine loopW J W hloc (.head _) (next_is_new F) hSt h0 (F.push _) (fun p hp => ⟨Heap.get?_push_of_some _ (N p hp).1, (N p hp).2⟩) hnew hj ?_ done
    rintro i v m₁ nx h tk own oI hi ⟨c, u, hc, rfl⟩ hJ ha hown hat F₁ N₁
    have hone : ∀ p ∈ own, p = (s.heap.objs.size, oI) := fun p hp => by
      obtain ⟨h1, h2⟩ := hat p hp
      have h3 := List.mem_singleton.mp h1
      have h4 := (hat _ hown).2
      obtain ⟨p1, p2⟩ := p
      dsimp only at h2 h3 h4
      subst h3
      rw [h4] at h2
      rw [Option.some.inj h2]
    have N₂ : News h₀ env.locals h (nx ++ [(s.heap.objs.size, oI)]) := fun p hp => N₁ p ((List.mem_append.mp hp).elim (fun h => List.mem_append_left _ h) fun h => List.mem_append_right _ (by rw [List.mem_singleton.mp h]; exact hown))
    refine wpAny_mono (turn i c u m₁ nx h tk _ oI hc hJ ha rfl F₁ N₂) (fun f s₃ p => ?_) fun _ _ e => e
    have fin : LEnd h₀ env.locals (J (i + 1)) s.heap.objs.size [(s.heap.objs.size, oI)] { s with heap := h, toks := tk } s₃ → LEnd h₀ env.locals (J (i + 1)) s.heap.objs.size own { s with heap := h, toks := tk } s₃ := by
      rintro ⟨h', tk', m', news', nx', e, F', N', hn', ho, ha', hm⟩
      exact ⟨h', tk', m', news', nx', e, F', N', hn', fun p hp => by rw [hone p hp]; exact ho _ (.head _), ha', hm⟩
    cases f with
    | ret v => exact p
    | brk => exact p
    | next => exact fin p
    | cont => exact fin p
  cases ha : z.cps.all (· < 128)
  · exact wpAny_pyIter_wide ha (go _ _ (Walks.strWide hh _ z t) (fun i h ⟨o, ho, _⟩ => ⟨o, ho⟩) ⟨_, Heap.get?_push_size _ rfl, rfl, rfl⟩)
  · exact wpAny_pyIter_ascii ha (go _ _ (Walks.strAscii hh _ z t) (fun i h ⟨o, ho, _⟩ => ⟨o, ho⟩) ⟨_, Heap.get?_push_size _ rfl, rfl, rfl⟩)

theorem loopRange {r : Addr} {b₀ : Int} {t₀ u₀ v₀ : Tok} {n : Nat} {m₀ : Str → Option Value} {news : Led} (J : Nat → (Str → Option Value) → Led → Prop) (hh : A.handled = none) (hr : IsRange s.heap r 0 b₀ 1 t₀ u₀ v₀) (hsmall : Builtin.Range.small 0 b₀ 1 = true) (hn : Builtin.Range.rangeSize 0 b₀ 1 = (n : Int))
    (F : Fr h₀ env.locals s.heap m₀) (N : News h₀ env.locals s.heap news) (hj : J 0 m₀ news)
    (turn : ∀ i u m₁ nx h tk own oI, i < n → J i m₁ nx → (∀ p ∈ nx, p.1 ≠ s.heap.objs.size) → (s.heap.objs.size, oI) ∈ own → Fr h₀ env.locals h (fun y => if y = x then some (.int (i : Nat) u) else m₁ y) → News h₀ env.locals h (nx ++ own) →
      wpAny (model prog w) A (execs body env) (LPost h₀ env.locals (J (i + 1)) s.heap.objs.size own { s with heap := h, toks := tk } Q) E { s with heap := h, toks := tk })
    (done : ∀ m₁ nx h tk, J n m₁ nx → Fr h₀ env.locals h m₁ → News h₀ env.locals h nx → Q .next { s with heap := h, toks := tk }) :
    wpAny (model prog w) A (pyIter (.ref r)) (fun it s₂ => LoopAtV prog w A h₀ env x body Q E it s₂) E s := by
  have hloc : env.locals ∉ [s.heap.objs.size] := fun hm => absurd F.ns.lt (List.mem_singleton.mp hm ▸ Nat.lt_irrefl _)
  have hnew : ∀ p ∈ news, p.1 ≠ s.heap.objs.size := fun p hp e => absurd (Heap.lt_size (N p hp).1) (e ▸ Nat.lt_irrefl _)
  refine wpAny_pyIter_range hr hsmall ?_
  refine loopW J (Walks.range hh _ 0 1 n) hloc (.head _) (next_is_new F) (fun i h st => ⟨_, st⟩) (by show IsRangeIter _ _ _ _ _; rw [hn]; simpa using Heap.get?_push_size _ rfl) (F.push _) (fun p hp => ⟨Heap.get?_push_of_some _ (N p hp).1, (N p hp).2⟩) hnew hj ?_ done
  rintro i v m₁ nx h tk own oI hi ⟨u, rfl⟩ hJ ha hown _ F₁ N₁
  have e : (0 : Int) + (i : Int) * 1 = (i : Int) := by omega
  rw [e] at F₁
  exact turn i u m₁ nx h tk own oI hi hJ ha hown F₁ N₁

theorem loopTuple {l : Addr} {vs : List Value} {m₀ : Str → Option Value} {news : Led} (J : Nat → (Str → Option Value) → Led → Prop) (hh : A.handled = none) (hl : s.heap.IsTuple l vs.toArray) (hL : l ≠ env.locals)
    (F : Fr h₀ env.locals s.heap m₀) (N : News h₀ env.locals s.heap news) (hj : J 0 m₀ news)
    (turn : ∀ i v m₁ nx h tk own oI, vs[i]? = some v → J i m₁ nx → (∀ p ∈ nx, p.1 ≠ s.heap.objs.size) → (s.heap.objs.size, oI) ∈ own → Fr h₀ env.locals h (fun y => if y = x then some v else m₁ y) → News h₀ env.locals h (nx ++ own) →
      wpAny (model prog w) A (execs body env) (LPost h₀ env.locals (J (i + 1)) s.heap.objs.size own { s with heap := h, toks := tk } Q) E { s with heap := h, toks := tk })
    (done : ∀ m₁ nx h tk, J vs.length m₁ nx → Fr h₀ env.locals h m₁ → News h₀ env.locals h nx → Q .next { s with heap := h, toks := tk }) :
    wpAny (model prog w) A (pyIter (.ref l)) (fun it s₂ => LoopAtV prog w A h₀ env x body Q E it s₂) E s := by
  obtain ⟨ol, hol, hcl⟩ := id hl
  have hne : l ≠ s.heap.objs.size := Nat.ne_of_lt (Heap.lt_size hol)
  have hloc : env.locals ∉ [s.heap.objs.size, l] := fun hm => by
    rcases List.mem_cons.mp hm with e | hm
    · exact absurd F.ns.lt (e ▸ Nat.lt_irrefl _)
    · exact hL (List.mem_singleton.mp hm).symm
  have hnew : ∀ p ∈ news, p.1 ≠ s.heap.objs.size := fun p hp e => absurd (Heap.lt_size (N p hp).1) (e ▸ Nat.lt_irrefl _)
  refine wpAny_pyIter_tuple hl ?_
  have W := Walks.tuple (prog := prog) (w := w) hh s.heap.objs.size l hne vs.toArray
  have hlen : vs.toArray.size = vs.length := by simp
  rw [hlen] at W
  refine loopW J W hloc (.head _) (next_is_new F) (fun i h st => by obtain ⟨⟨o, ho, _⟩, _⟩ := st; exact ⟨o, ho⟩) ⟨⟨_, Heap.get?_push_size _ rfl, rfl, rfl⟩, ⟨ol, Heap.get?_push_of_some _ hol, hcl⟩⟩ (F.push _) (fun p hp => ⟨Heap.get?_push_of_some _ (N p hp).1, (N p hp).2⟩) hnew hj ?_ done
  rintro i v m₁ nx h tk own oI hi hv hJ ha hown _ F₁ N₁
  exact turn i v m₁ nx h tk own oI (by simpa using hv) hJ ha hown F₁ N₁
theorem getD_len {l : List Str} {b : Nat} (hl : ∀ y ∈ l, y.length ≤ b) (i : Nat) : (l.getD i Str.empty).length ≤ b := by
  rw [List.getD_eq_getElem?_getD]
  cases h : l[i]? with
  | none => exact Nat.zero_le _
  | some y => exact hl y (List.mem_of_getElem? h)
theorem item_strsB {value slice : Expr} {a : Addr} {l : List Value} {ys : List Str} {b : Nat} {k : Int} {u : Tok} {Q : Value → Shared → Prop} (hl : s.heap.IsList a l.toArray) (hi : StrsAre l ys) (hb : ∀ y ∈ ys, y.length ≤ b)
    (h0 : 0 ≤ k) (hk : k < ys.length) (hfit : k < 2 ^ 63) (h : ∀ t', (ys.getD k.toNat Str.empty).length ≤ b → Q (.str (ys.getD k.toNat Str.empty) t') s)
    (hs : subscripted slice false (.ref a) (.int k u) = operate [.ref a, .int k u] (getItem (.ref a) (.int k u)) := by with_unfolding_all rfl) (hg : ∀ r, letTemporaryGo value (.ref a) r = pure () := by intro _; with_unfolding_all rfl) :
    wpAny (model prog w) A (subscriptTail value slice (.ref a) (.int k u)) Q E s := item_strsA hl hi h0 hk hfit (fun t' => h t' (getD_len hb _)) hs hg
def WPost {σ : Type} (h₀ : Heap) (L : Addr) (s : Shared) (news : Led) (ps : σ → List (Str × Value)) (stored : List Str) (m₀ : Str → Option Value) (P : σ → Prop) (μ : σ → Nat) (Q : Flow → Shared → Prop) (c : σ) (f : Flow) (s₂ : Shared) : Prop :=
  KswPost h₀ L s (fun _ => news) ps (fun _ => True) stored m₀ P μ Q c f s₂
theorem whileF {σ : Type} {Q : Flow → Shared → Prop} {test : Expr} {pos : Pos} {m₀ : Str → Option Value} {news : Led} {L : Addr} (ps : σ → List (Str × Value)) (stored : List Str) (P : σ → Prop) (μ : σ → Nat) (c₀ : σ)
    (F : Fr h₀ L s.heap m₀) (N : News h₀ L s.heap news) (hk : ∀ p ∈ ps c₀, m₀ p.1 = some p.2) (hp : P c₀)
    (turn : ∀ (c : σ) (u : Str → Option Value) h tk, P c → Fr h₀ L h (kstB (fun z => if stored.contains z then u z else m₀ z) (ps c)) → News h₀ L h news →
      wpAny (model prog w) A (isTrue test env (eval test env)) (fun b s₂ =>
        if b = true then wpAny (model prog w) A (execs body env) (WPost h₀ L s news ps stored m₀ P μ Q c) E s₂ else Q .next s₂) E { s with heap := h, toks := tk })
    (hE : PassesOwn (model prog w) A env E := by passes_own) :
    wpAny (model prog w) A (exec (.While test body [] pos) env) Q E s :=
  ksw_while (fun _ => news) ps (fun _ => True) stored P μ c₀ F N trivial hk hp (fun c u h tk _ hP F N => turn c u h tk hP F N) hE
theorem WPost.next {σ : Type} {Q : Flow → Shared → Prop} {L : Addr} {news news' : Led} {ps : σ → List (Str × Value)} {stored : List Str} {m₀ m' : Str → Option Value} {P : σ → Prop} {μ : σ → Nat} {c : σ} {h' : Heap} {tk : Nat} (c' : σ)
    (F : Fr h₀ L h' m') (N : News h₀ L h' news') (hn : ∀ p ∈ news, p ∈ news') (hk : ∀ p ∈ ps c', m' p.1 = some p.2) (hr : ∀ z, (∀ p ∈ ps c', z ≠ p.1) → stored.contains z = false → m' z = m₀ z) (hp : P c') (hm : μ c' < μ c) :
    WPost h₀ L s news ps stored m₀ P μ Q c .next { s with heap := h', toks := tk } :=
  ksw_end c' F N hn trivial hk hr hp hm
theorem splitV {L : Addr} {m : Str → Option Value} {news : Led} {x y : Str} {t u : Tok} {Q : Value → Shared → Prop} (hF : Fr h₀ L s.heap m) (hN : News h₀ L s.heap news) (hy : (y.length == 0) = false) (hsz : x.length ≤ 100000)
    (h : ∀ D vs ws h' k, ws = Txt.split x y → StrsAre vs ws → (∀ z ∈ ws, z.length ≤ x.length) → 1 ≤ ws.length → ws.length ≤ x.length + 2 → Fr h₀ L h' m → News h₀ L h' ((D, PySem.W.listOf vs.toArray 0) :: news) → (∀ p ∈ news, p.1 < D) → Q (.ref D) { s with heap := h', toks := k }) :
    wpAny (model prog w) A (call (.builtin "str.split") [.str x t, .str y u]) Q E s :=
  splitN1A hF hN hy (fun l h' k e hs hz _ F N => by
    rw [e] at hs hz
    exact h _ _ _ h' k rfl hs hz (split_pos x y) (split_le x y) F N fun p hp => Heap.lt_size (hN p hp).1) (by rw [sizeLine_eq]; omega)
theorem sliceFromS {l L : Addr} {m : Str → Option Value} {news : Led} {value slice : Expr} {vs : List Value} {ws : List Str} {a : Nat} {t : Tok} {Q : Value → Shared → Prop} (F : Fr h₀ L s.heap m) (N : News h₀ L s.heap news) (hl : s.heap.IsList l vs.toArray) (hi : StrsAre vs ws) (hz : vs.length ≤ 10000)
    (h : ∀ D vs' h', StrsAre vs' (ws.drop a) → Fr h₀ L h' m → News h₀ L h' ((D, PySem.W.listOf vs'.toArray 0) :: news) → (∀ p ∈ news, p.1 < D) → Q (.ref D) { s with heap := h' })
    (hs : subscripted slice false (.ref l) (.ref s.heap.objs.size) = operate [.ref s.heap.objs.size, .ref l] (getItem (.ref l) (.ref s.heap.objs.size))) (ht : ∀ r, letTemporaryGo value (.ref l) r = pure ()) :
    wpAny (model prog w) A (subscriptTail value slice (.ref l) (.ref s.heap.objs.size)) Q E { s with heap := s.heap.push { cls := .type "slice", data := .fields #[.int (a : Int) t, .none, .none] } } := by
  refine kmk_slice F N hl (.int _ _) .none (fun D h' F' N' l1 => h D (vs.drop a) h' (StrsAre.drop' hi a) F' ?_ l1) hs ht (by rw [sizeLine_eq, List.size_toArray]; omega)
  have e : sliceBounds (some (a : Int)) none none vs.toArray.size = (((min a vs.toArray.size : Nat) : Int), ((vs.toArray.size : Nat) : Int), 1) := by
    simp only [sliceBounds, Option.getD_none, show (1 : Int) > 0 by decide, if_true, if_neg (show ¬ ((a : Int) < 0) by omega)]
    congr 1
    omega
  rw [kmk_pick_nat _ e] at N'
  have e2 : (vs.toArray.toList.drop (min a vs.toArray.size)).take (vs.toArray.size - min a vs.toArray.size) = vs.drop a := by
    rw [List.size_toArray, kmk_drop_min]
    show List.take _ (vs.drop a) = _
    rw [List.take_of_length_le (by rw [List.length_drop]; omega)]
  rw [e2] at N'
  exact N'
theorem sliceFromI {l L : Addr} {m : Str → Option Value} {news : Led} {value slice : Expr} {vs : List Value} {ws : List Str} {a : Int} {t : Tok} {Q : Value → Shared → Prop} (F : Fr h₀ L s.heap m) (N : News h₀ L s.heap news) (hl : s.heap.IsList l vs.toArray) (hi : StrsAre vs ws) (h0 : 0 ≤ a) (hz : ws.length ≤ 10000)
    (h : ∀ D vs' h', StrsAre vs' (ws.drop a.toNat) → Fr h₀ L h' m → News h₀ L h' ((D, PySem.W.listOf vs'.toArray 0) :: news) → (∀ p ∈ news, p.1 < D) → Q (.ref D) { s with heap := h' })
    (hs : subscripted slice false (.ref l) (.ref s.heap.objs.size) = operate [.ref s.heap.objs.size, .ref l] (getItem (.ref l) (.ref s.heap.objs.size))) (ht : ∀ r, letTemporaryGo value (.ref l) r = pure ()) :
    wpAny (model prog w) A (subscriptTail value slice (.ref l) (.ref s.heap.objs.size)) Q E { s with heap := s.heap.push { cls := .type "slice", data := .fields #[.int a t, .none, .none] } } := by
  have e : a = ((a.toNat : Nat) : Int) := by omega
  have g := sliceFromS (value := value) (slice := slice) (a := a.toNat) (t := t) (E := E) (A := A) (prog := prog) (w := w) F N hl hi (by rw [hi.length]; exact hz) h hs ht
  rw [← e] at g
  exact g
theorem For_F {m₀ : Str → Option Value} {Q : Flow → Shared → Prop} {px pos : Pos} {iter : Expr} (F : Fr h₀ env.locals s.heap m₀) (hx : env.kindOf x = some .local)
    (hp : (env.scope.kind == .class || (env.scope.kind == .module && env.locals != env.globals)) = false)
    (h : wpAny (model prog w) A (eval iter env) (fun xv s₁ => wpAny (model prog w) A (pyIter xv) (fun it s₂ => LoopAtV prog w A h₀ env x body Q E it s₂) E s₁) E s)
    (hs : ∀ y, foldedSetIterable iter env y = pure y := by intro _; rfl)
    (hE : PassesOwn (model prog w) A env E := by passes_own) :
    wpAny (model prog w) A (exec (.For (.Name x px) iter body [] pos) env) Q E s := For_invV h₀ hx hp h hs hE
end
end Mine

local macro_rules | `(tactic| k_mem) => `(tactic| assumption)
local macro_rules | `(tactic| walk_at "m l") => `(tactic| exact ⟨_, News.get (by k_asm) (by k_mem), rfl, _, rfl⟩)
local macro_rules | `(tactic| walk_at "call builtin:len") => `(tactic| (k_here; (with_reducible show wpAny _ _ (call _ [Value.ref _]) _ _ _); (refine' len_strsA ?hl ?hi ?hf ?_; (case hl => walk_at "m l"); (case hi => assumption); (case hf => omega))))
local macro_rules | `(tactic| walk_at "subscriptTail Name Name ref int") => `(tactic| (k_here; (with_reducible show wpAny _ _ (subscriptTail _ _ (Value.ref _) (Value.int _ _)) _ _ _); ((with_unfolding_all refine' Mine.item_strsB ?hl ?hi ?hb ?h0 ?hk ?hf ?_ ?hs ?hg); (case hl => walk_at "m l"); (case hi => assumption); (case hb => assumption); (case h0 => omega); (case hk => omega); (case hf => omega); (case hs => with_unfolding_all rfl); (case hg => (intro _; with_unfolding_all rfl))); intro t' hlen'))
local macro_rules | `(tactic| walk_at "subscriptTail Name Constant int ref int") => `(tactic| walk_at "subscriptTail Name Name ref int")
local macro_rules | `(tactic| walk_at "subscriptTail Name Constant ref int") => `(tactic| walk_at "subscriptTail Name Name ref int")
local macro_rules | `(tactic| walk_at "subscriptTail Name BinOp ref int") => `(tactic| walk_at "subscriptTail Name Name ref int")
local macro_rules | `(tactic| walk_at "subscriptTail Name UnaryOp ref int") => `(tactic| walk_at "subscriptTail Name Name ref int")
local macro_rules | `(tactic| walk_at "call builtin:str.split") => `(tactic| (k_here; (with_reducible show wpAny _ _ (call (Value.builtin "str.split") [Value.str _ _, Value.str _ _]) _ _ _); (refine Mine.splitV (by k_asm) (by k_asm) (by decide) (by omega) ?_); (intro D' vs' ws' h' k' se' sa' sb' sc' sd' F' N' l1)))

local macro_rules | `(tactic| walk_at "subscriptTail Name Slice ref ref") => `(tactic| (k_here; (with_reducible show wpAny _ _ (subscriptTail _ (PySem.Expr.Slice (some _) none none _) (Value.ref _) (Value.ref _)) _ _ _); (k_dflt (refine' Mine.sliceFromI ?F ?N ?l ?i ?h0 ?hz ?_ ?s ?t)); (case F => k_asm); (case N => k_asm); (case l => exact ⟨_, News.get (by k_asm) (by k_mem), rfl, _, rfl⟩); (case i => assumption); (case h0 => omega); (case hz => omega); (case s => with_unfolding_all rfl); (case t => (intro _; with_unfolding_all rfl)); intro D' vs' h' sa' F' N' l1))
theorem Mine.quietL2 : True := by
  w_top off
  trivial
namespace Mine
open LCg LCt
theorem strsAt {vs : List Value} {ws : List Str} {i : Nat} {v : Value} (hi : StrsAre vs ws) (hv : vs.toArray[i]? = some v) : ∃ z t, v = .str z t ∧ z ∈ ws ∧ ws.take (i + 1) = ws.take i ++ [z] := by
  have hv' : vs[i]? = some v := by simpa using hv
  have hlt : i < ws.length := by
    rw [← hi.length]
    exact (List.getElem?_eq_some_iff.mp hv').1
  obtain ⟨t, ht⟩ := hi.get i ws[i] (List.getElem?_eq_getElem hlt)
  refine ⟨ws[i], t, ?_, List.getElem_mem hlt, by rw [List.take_add_one, List.getElem?_eq_getElem hlt]; rfl⟩
  rw [hv'] at ht; exact Option.some.inj ht
theorem filt_pos {p : Str → Bool} {g : Str → Str} {ys : List Value} {t' : Tok} {a b : List Str} {z : Str} (e : b = a ++ [z]) (hp : p z = true) (hy : StrsAre ys ((a.filter p).map g)) : StrsAre (ys ++ [.str (g z) t']) ((b.filter p).map g) := by
  rw [e, List.filter_append, List.map_append, List.filter_cons_of_pos hp]
  exact StrsAre.append' hy (.cons _ _ .nil)
theorem filt_neg {p : Str → Bool} {g : Str → Str} {ys : List Value} {a b : List Str} {z : Str} (e : b = a ++ [z]) (hp : p z = false) (hy : StrsAre ys ((a.filter p).map g)) : StrsAre ys ((b.filter p).map g) := by
  rw [e, List.filter_append, List.map_append, List.filter_cons_of_neg (by simp [hp])]
  simpa using hy
section
variable {prog : Program} {w : World} {A : Around} {E : Value → Shared → Prop} {s : Shared} {h₀ : Heap} {L : Addr} {m : Str → Option Value} {news : Led} {env : Env}
theorem srcT_led {ct elt : Expr} {x : Str} {scope : Scope} {cl : List (Str × Addr)} {Fin : Shared → List Value → Led → Prop} {ax : Addr} {vs : List Value} {k : Nat} {s₁ : Shared}
    (hh : A.handled = none) (F : Fr h₀ L s₁.heap m) (N : News h₀ L s₁.heap news) (hm : (ax, PySem.W.listOf vs.toArray k) ∈ news) (hsz : vs.length ≤ 100000)
    (h : ∀ g, CompRestT prog w A h₀ L m env ct elt x scope cl { s₁ with heap := g } (SrcAt h₀ ax vs.toArray) (fun i v => vs.toArray[i]? = some v) (Fin { s₁ with heap := g }) vs.toArray.size 0 [] news) :
    CompSrcT prog w A h₀ L m env ct elt x scope cl Fin (.ref ax) s₁ := CompSrcT.ledger hh F N hm (by rw [List.size_toArray, sizeLine_eq]; omega) h
theorem src_led {elt : Expr} {x : Str} {scope : Scope} {cl : List (Str × Addr)} {Fin : Shared → List Value → Led → Prop} {ax : Addr} {vs : List Value} {k : Nat} {s₁ : Shared}
    (hh : A.handled = none) (F : Fr h₀ L s₁.heap m) (N : News h₀ L s₁.heap news) (hm : (ax, PySem.W.listOf vs.toArray k) ∈ news) (hsz : vs.length ≤ 100000)
    (h : ∀ g, CompRest prog w A h₀ L m env elt x scope cl { s₁ with heap := g } (SrcAt h₀ ax vs.toArray) (fun i v => vs.toArray[i]? = some v) (Fin { s₁ with heap := g }) vs.toArray.size 0 [] news) :
    CompSrc prog w A h₀ L m env elt x scope cl Fin (.ref ax) s₁ := CompSrc.ledger hh F N hm (by rw [List.size_toArray, sizeLine_eq]; omega) h
theorem sum_le {B : Nat} : ∀ {ys : List Str}, (∀ y ∈ ys, y.length ≤ B) → (ys.map (·.length)).sum ≤ ys.length * B
  | [], _ => Nat.zero_le _
  | y :: ys, h => by
    have h1 := h y (.head _)
    have h2 := sum_le (ys := ys) fun z hz => h z (.tail _ hz)
    rw [List.map_cons, List.sum_cons, List.length_cons, Nat.succ_mul]
    omega
theorem joinV {D : Addr} {vs : List Value} {ys : List Str} {x : Str} {t : Tok} {Q : Value → Shared → Prop} (hl : s.heap.IsList D vs.toArray) (hi : StrsAre vs ys) (hx : x.length ≤ 64) (hB : ∀ y ∈ ys, y.length ≤ 5000) (hn : ys.length ≤ 3000)
    (h : ∀ t' k z, z = Str.join x ys → z.length ≤ 16000000 → Q (.str z t') { s with toks := k }) : wpAny (model prog w) A (call (.builtin "str.join") [.str x t, .ref D]) Q E s := by
  have h1 := sum_le hB
  have h2 : ys.length * 5000 ≤ 3000 * 5000 := Nat.mul_le_mul_right _ hn
  have h3 : ys.length * 64 ≤ 3000 * 64 := Nat.mul_le_mul_right _ hn
  refine join_listC hl hi hx (by omega) fun t' k => h t' k _ (StrLaws.glued_eq_join x ys) ?_
  have h4 : Txt.join x ys = Str.join x ys := StrLaws.glued_eq_join x ys
  rw [h4]
  have h5 := StrLaws.join_length_le x ys
  have h6 : ys.length * x.length ≤ ys.length * 64 := Nat.mul_le_mul_left _ hx
  omega
theorem addListsV {l b : Addr} {va vb : List Value} {xa xb : List Str} {Q : Value → Shared → Prop} (F : Fr h₀ L s.heap m) (N : News h₀ L s.heap news) (hl : s.heap.IsList l va.toArray) (hb : s.heap.IsList b vb.toArray) (ha : StrsAre va xa) (hc : StrsAre vb xb) (h1 : xa.length ≤ 10000) (h2 : xb.length ≤ 10000)
    (h : ∀ D vc h', StrsAre vc (xa ++ xb) → Fr h₀ L h' m → News h₀ L h' ((D, PySem.W.listOf vc.toArray 0) :: news) → (∀ p ∈ news, p.1 < D) → Q (.ref D) { s with heap := h' }) :
    wpAny (model prog w) A (binaryOp .Add (.ref l) (.ref b)) Q E s := by
  refine add_arrays F N hl hb (fun h' F' N' => h _ (va ++ vb) h' (StrsAre.append' ha hc) F' N' fun p hp => Heap.lt_size (N p hp).1) ?_
  rw [List.size_toArray, List.size_toArray, ha.length, hc.length, sizeLine_eq]
  omega
def lastS (ws : List Str) : Str := ws.getD (ws.length - 1) Str.empty
theorem itemLastS {value slice : Expr} {l : Addr} {vs : List Value} {ws : List Str} {b : Nat} {u : Tok} {Q : Value → Shared → Prop} (hl : s.heap.IsList l vs.toArray) (hi : StrsAre vs ws) (hb : ∀ y ∈ ws, y.length ≤ b) (hne : ws ≠ [])
    (h : ∀ t', (lastS ws).length ≤ b → Q (.str (lastS ws) t') s)
    (hs : subscripted slice false (.ref l) (.int (-1) u) = operate [.ref l, .int (-1) u] (getItem (.ref l) (.int (-1) u))) :
    wpAny (model prog w) A (subscriptTail value slice (.ref l) (.int (-1) u)) Q E s := by
  have hpos : 0 < ws.length := List.length_pos_iff.mpr hne
  have hvl : vs.length = ws.length := hi.length
  obtain ⟨t, ht⟩ := hi.get (ws.length - 1) (lastS ws) (by
    have h1 : ws.length - 1 < ws.length := by omega
    unfold lastS
    rw [List.getD_eq_getElem?_getD, List.getElem?_eq_getElem h1]; rfl)
  refine kde_neg hl (by decide) (by decide) (j := ws.length - 1) ?_ ht (h t (getD_len hb _)) hs
  rw [StrLaws.seqIndex_neg (by decide) (by omega)]
  congr 1
  omega
theorem strs_set {y : Str} {u : Tok} : ∀ {vs : List Value} {ws : List Str}, StrsAre vs ws → ∀ j : Nat, StrsAre (vs.set j (Value.str y u)) (ws.set j y)
  | _, _, .nil, _ => .nil
  | _, _, .cons _ _ h, 0 => .cons y u h
  | _, _, .cons i t h, j + 1 => .cons i t (strs_set h j)
theorem ki_setL_of : ∀ {q : List Value} {j : Nat} {v : Value}, j < q.length → ki_setL q j v = some (q.set j v)
  | [], _, _, h => absurd h (Nat.not_lt_zero _)
  | a :: q, 0, v, _ => rfl
  | a :: q, j + 1, v, h => by
    have := ki_setL_of (q := q) (j := j) (v := v) (Nat.lt_of_succ_lt_succ h)
    simp [ki_setL, this]
def setLast (ws : List Str) (y : Str) : List Str := ws.set (ws.length - 1) y
theorem setLastS {D : Addr} {vs : List Value} {ws : List Str} {y : Str} {n : Nat} {t u : Tok} {news' : Led} {Q : Unit → Shared → Prop} (F : Fr h₀ L s.heap m) (N : News h₀ L s.heap news)
    (U : Upd D (PySem.W.listOf vs.toArray n) (PySem.W.listOf (vs.set (ws.length - 1) (Value.str y u)).toArray n) news news') (hi : StrsAre vs ws) (hne : ws ≠ [])
    (h : ∀ h', Fr h₀ L h' m → News h₀ L h' news' → StrsAre (vs.set (ws.length - 1) (Value.str y u)) (setLast ws y) → Q () { s with heap := h' }) :
    wpAny (model prog w) A (setItem (.ref D) (.int (-1) t) (.str y u)) Q E s := by
  have hpos : 0 < ws.length := List.length_pos_iff.mpr hne
  have hvl : vs.length = ws.length := hi.length
  refine ki_setNeg (its := vs.toArray) F N (by decide) (by decide) (j := ws.length - 1) ?_ (q := vs.set (ws.length - 1) (Value.str y u)) ?_ U fun h' F' N' => h h' F' N' (strs_set hi _)
  · rw [List.size_toArray, StrLaws.seqIndex_neg (by decide) (by omega)]
    congr 1
    omega
  · show ki_setL vs _ _ = _
    exact ki_setL_of (by omega)
theorem appendS {D : Addr} {vs : List Value} {ws : List Str} {y : Str} {n : Nat} {u : Tok} {news' : Led} {Q : Value → Shared → Prop} (F : Fr h₀ L s.heap m) (N : News h₀ L s.heap news)
    (U : Upd D (PySem.W.listOf vs.toArray n) (PySem.W.listOf (vs ++ [Value.str y u]).toArray (n + 1)) news news') (hi : StrsAre vs ws) (hsz : ws.length ≤ 10000)
    (h : ∀ h', Fr h₀ L h' m → News h₀ L h' news' → StrsAre (vs ++ [Value.str y u]) (ws ++ [y]) → Q .none { s with heap := h' }) :
    wpAny (model prog w) A (call (.builtin "list.append") [.ref D, .str y u]) Q E s := by
  refine append_K (its := vs.toArray) (n := n) F N (by simpa using U) (fun h' F' N' => h h' F' N' (StrsAre.append' hi (.cons _ _ .nil))) ?_
  rw [List.size_toArray, hi.length, sizeLine_eq]; omega
theorem datAll_strs {n₁ : Led} : ∀ {vs : List Value} {ws : List Str}, StrsAre vs ws → DatAll n₁ vs (ws.map Dat.str)
  | _, _, .nil => .nil
  | _, _, .cons x t r => .cons (.str x t) (datAll_strs r)
theorem datOk_strs {ws : List Str} (h : ∀ x ∈ ws, PyData.strOk x = true) : ∀ d ∈ ws.map Dat.str, kqdOk 8 d = true := by
  intro d hd
  obtain ⟨x, hx, rfl⟩ := List.mem_map.mp hd
  exact h x hx
theorem strMap_inj {a b : List Str} : (a.map Dat.str = b.map Dat.str) ↔ a = b := by
  constructor
  · intro h
    induction a generalizing b with
    | nil => cases b with
      | nil => rfl
      | cons y b => cases h
    | cons x a ih => cases b with
      | nil => cases h
      | cons y b =>
        simp only [List.map_cons, List.cons.injEq, Dat.str.injEq] at h
        rw [h.1, ih h.2]
  · rintro rfl; rfl
theorem neListsS {a b : Addr} {va vb : List Value} {xa xb : List Str} {k1 k2 : Nat} {Q : Value → Shared → Prop} (N : News h₀ L s.heap news) (ma : (a, PySem.W.listOf va.toArray k1) ∈ news) (mb : (b, PySem.W.listOf vb.toArray k2) ∈ news) (ha : StrsAre va xa) (hb : StrsAre vb xb)
    (oa : ∀ x ∈ xa, PyData.strOk x = true) (ob : ∀ x ∈ xb, PyData.strOk x = true) (hu : A.units + 64 < cLine) (h : ∀ v : Bool, (v = true ↔ xa ≠ xb) → Q (.bool v) s) : wpAny (model prog w) A (compareOp .NotEq (.ref a) (.ref b)) Q E s := by
  classical
  refine kqd_ne (ds := xa.map Dat.str) (es := xb.map Dat.str) N ma rfl rfl (datAll_strs (n₁ := []) ha) (fun _ hp => nomatch hp) mb rfl rfl (datAll_strs (n₁ := []) hb) (fun _ hp => nomatch hp) (datOk_strs oa) (datOk_strs ob) hu (h _ ?_)
  simp only [Bool.not_eq_true', decide_eq_false_iff_not, strMap_inj, ne_eq]
theorem eqListsS {a b : Addr} {va vb : List Value} {xa xb : List Str} {k1 k2 : Nat} {Q : Value → Shared → Prop} (N : News h₀ L s.heap news) (ma : (a, PySem.W.listOf va.toArray k1) ∈ news) (mb : (b, PySem.W.listOf vb.toArray k2) ∈ news) (ha : StrsAre va xa) (hb : StrsAre vb xb)
    (oa : ∀ x ∈ xa, PyData.strOk x = true) (ob : ∀ x ∈ xb, PyData.strOk x = true) (hu : A.units + 64 < cLine) (h : ∀ v : Bool, (v = true ↔ xa = xb) → Q (.bool v) s) : wpAny (model prog w) A (compareOp .Eq (.ref a) (.ref b)) Q E s := by
  classical
  refine kqd_eq (ds := xa.map Dat.str) (es := xb.map Dat.str) N ma rfl rfl (datAll_strs (n₁ := []) ha) (fun _ hp => nomatch hp) mb rfl rfl (datAll_strs (n₁ := []) hb) (fun _ hp => nomatch hp) (datOk_strs oa) (datOk_strs ob) hu (h _ ?_)
  simp only [decide_eq_true_eq, strMap_inj]
end
section
variable {prog : Program} {w : World} {A : Around} {s : Shared} {h₀ : Heap} {L : Addr} {m : Str → Option Value} {env : Env} {ct elt : Expr} {x : Str} {scope : Scope} {cl : List (Str × Addr)}

theorem restT_strs {vs : List Value} {ws : List Str} {S : Led → Prop} {news : Led} {Fin : List Value → Led → Prop} (hi : StrsAre vs ws) (p : Str → Bool) (g : Str → Str)
    (turn : ∀ z t I oI C oC D m₂ ys h tk (E' : Value → Shared → Prop) (R : Value → Led → Prop) (R2 : Led → Prop), z ∈ ws → NsObj oC m₂ → m₂ x = some (.str z t) → Fr h₀ L h m → News h₀ L h ((I, oI) :: (C, oC) :: (D, lst ys) :: news) → Off3 I C D news → ((@Ne Nat I C) ∧ (@Ne Nat I D) ∧ (@Ne Nat C D)) →
      (p z = true → ∀ t', R (.str (g z) t') news) → (p z = false → R2 news) →
      wpAny (model prog w) A (isTrue ct (compEnvC scope cl C env) (eval ct (compEnvC scope cl C env))) (fun ok s' => if ok = true then
        wpAny (model prog w) A (eval elt (compEnvC scope cl C env)) (CompEnd h₀ L m { s with heap := h, toks := tk } I oI C oC D (lst ys) S R) E' s'
        else CompEnd h₀ L m { s with heap := h, toks := tk } I oI C oC D (lst ys) S (fun _ => R2) Value.none s') E' { s with heap := h, toks := tk })
    (fin : ∀ ys, StrsAre ys ((ws.filter p).map g) → Fin ys news) :
    CompRestT prog w A h₀ L m env ct elt x scope cl s S (fun i v => vs.toArray[i]? = some v) Fin vs.toArray.size 0 [] news := by
  have key : ∀ (k i : Nat) (ys : List Value), k + i = vs.length → StrsAre ys (((ws.take i).filter p).map g) → CompRestT prog w A h₀ L m env ct elt x scope cl s S (fun i v => vs.toArray[i]? = some v) Fin k i ys news := by
    intro k
    induction k with
    | zero =>
      intro i ys hk hy
      refine CompRestT.zero (fin ys ?_)
      rw [List.take_of_length_le (by rw [← hi.length]; omega)] at hy
      exact hy
    | succ k ih =>
      intro i ys hk hy
      refine CompRestT.succ fun v I oI C oC D m₂ h tk E' hv hC hx F N off ne => ?_
      obtain ⟨z, t, rfl, hz, hs⟩ := strsAt hi hv
      exact turn z t I oI C oC D m₂ ys h tk E' _ _ hz hC hx F N off ne (fun hp t' => ih (i + 1) _ (by omega) (filt_pos hs hp hy)) (fun hp => ih (i + 1) _ (by omega) (filt_neg hs hp hy))
  rw [List.size_toArray]
  exact key _ 0 [] rfl .nil
end
end Mine

local macro_rules | `(tactic| walk_at "binaryOp Add ref ref") => `(tactic| (k_here; (with_reducible show wpAny _ _ (binaryOp _ (Value.ref _) (Value.ref _)) _ _ _); (refine' Mine.addListsV ?F ?N ?a ?b ?i ?j ?y ?z ?_); (case F => k_asm); (case N => k_asm); (case a => walk_at "m l"); (case b => walk_at "m l"); (case i => first | assumption | exact .cons _ _ .nil); (case j => first | assumption | exact .cons _ _ .nil); (case y => first | (simp only [List.length_cons, List.length_nil]; omega) | omega); (case z => first | assumption | (simp only [List.length_cons, List.length_nil]; omega) | omega); intro D' vc' h' sa' F' N' l1))
local macro_rules | `(tactic| walk_at "call builtin:str.join") => `(tactic| (k_here; (with_reducible show wpAny _ _ (call _ [Value.str _ _, Value.ref _]) _ _ _); (refine' Mine.joinV ?l ?i ?x ?b ?n ?_); (case l => walk_at "m l"); (case i => assumption); (case x => first | decide | omega); (case b => assumption); (case n => first | assumption | omega); intro t' k' z' ez' lz'))
local macro_rules | `(tactic| walk_at "compareOp NotEq ref ref") => `(tactic| (k_here; (with_reducible show wpAny _ _ (compareOp _ (Value.ref _) (Value.ref _)) _ _ _); (first | refine' Mine.neListsS ?N ?a ?b ?i ?j ?oa ?ob ?u ?_ | refine' Mine.eqListsS ?N ?a ?b ?i ?j ?oa ?ob ?u ?_); (case N => k_asm); (case a => k_mem); (case b => k_mem); (case i => first | assumption | exact .cons _ _ .nil | exact .nil); (case j => first | exact .nil | assumption | exact .cons _ _ .nil); (case oa => first | assumption | exact List.forall_mem_nil _); (case ob => first | assumption | exact List.forall_mem_nil _); (case u => ktr_units); intro bv' hbv'))
local macro_rules | `(tactic| walk_at "compareOp Eq ref ref") => `(tactic| walk_at "compareOp NotEq ref ref")
local macro_rules | `(tactic| walk_at "subscriptTail Name UnaryOp ref int") => `(tactic| (k_here; (with_reducible show wpAny _ _ (subscriptTail _ _ (Value.ref _) (Value.int (-1) _)) _ _ _); ((with_unfolding_all refine' Mine.itemLastS ?hl ?hi ?hb ?hne ?_ ?hs); (case hl => walk_at "m l"); (case hi => assumption); (case hb => assumption); (case hne => first | assumption | (refine Iff.mp ?_ ?_; rotate_left 2; assumption; assumption) | exact (by simp_all)); (case hs => with_unfolding_all rfl)); intro t' hlen'))
local macro_rules | `(tactic| k_all) => `(tactic| assumption)
local macro_rules | `(tactic| walk_at "setItem ref int") => `(tactic| (k_here; (with_reducible show wpAny _ _ (setItem (Value.ref _) (Value.int (-1) _) (Value.str _ _)) _ _ _); (refine' Mine.setLastS ?F ?N ?U ?i ?ne ?_); (case F => k_asm); (case N => k_asm); (case U => k_upd); (case i => assumption); (case ne => assumption); intro h' F' N' sa'))
local macro_rules | `(tactic| walk_at "call builtin:list.append") => `(tactic| (k_here; (with_reducible show wpAny _ _ (call _ [Value.ref _, Value.str _ _]) _ _ _); (refine' Mine.appendS ?F ?N ?U ?i ?z ?_); (case F => k_asm); (case N => k_asm); (case U => k_upd); (case i => assumption); (case z => omega); intro h' F' N' sa'))
theorem Mine.quietC1 : True := by
  w_top off
  trivial
namespace Mine
theorem ct_get_sep {w mean mg mb} (x : Str) (t : Tok) : Ct w mean mg mb 1 129 [.str x t] (fun _ => True) (fun tl r => tl = [] ∧ ∃ t, r = .str (Str.ofString "/") t) := by
  unfold Ct
  k_fill
  intro dp un gd cn cs a ccd cl outer A₀ base h₀ L m news s Q E B F X N T hk hpre hdp hun hret
  refine wpAny_call ?_
  k_dflt ktr_enter
  (repeat' (first | (k_unfold; (try dsimp only)) | ((with_reducible change (_ : Flow → Shared → Prop) _ _); k_unfold; (try dsimp only)) | (k_end; wrow_close) | ((with_reducible show wpAny _ _ (exec _ _) _ _ _); k_fold; walk1) | walk1 | (dsimp only; walk1) | (leave1; walk_say "STEP leave1"; try dsimp only) | fail "no step"))
  exact hret _ [] _ _ (by k_asm) (by k_asm) ⟨rfl, _, rfl⟩
theorem ct_get_sepB {w mean mg mb} (x : Array UInt8) (t : Tok) : Ct w mean mg mb 1 129 [.bytes x t] (fun _ => True) (fun tl r => tl = [] ∧ ∃ t, r = .bytes #[47] t) := by
  unfold Ct
  k_fill
  intro dp un gd cn cs a ccd cl outer A₀ base h₀ L m news s Q E B F X N T hk hpre hdp hun hret
  refine wpAny_call ?_
  k_dflt ktr_enter
  (repeat' (first | (k_unfold; (try dsimp only)) | ((with_reducible change (_ : Flow → Shared → Prop) _ _); k_unfold; (try dsimp only)) | (k_end; wrow_close) | ((with_reducible show wpAny _ _ (exec _ _) _ _ _); k_fold; walk1) | walk1 | (dsimp only; walk1) | (leave1; walk_say "STEP leave1"; try dsimp only) | fail "no step"))
  exact hret _ [] _ _ (by k_asm) (by k_asm) ⟨rfl, _, rfl⟩
theorem ct_fspath {w mean mg mb} (x : Str) (t : Tok) : Ct w mean mg mb 1 108 [.str x t] (fun _ => True) (fun tl r => tl = [] ∧ r = .str x t) := by
  unfold Ct
  k_fill
  intro dp un gd cn cs a ccd cl outer A₀ base h₀ L m news s Q E B F X N T hk hpre hdp hun hret
  refine wpAny_call ?_
  k_dflt ktr_enter
  (repeat' (first | (k_unfold; (try dsimp only)) | ((with_reducible change (_ : Flow → Shared → Prop) _ _); k_unfold; (try dsimp only)) | (k_end; wrow_close) | ((with_reducible show wpAny _ _ (exec _ _) _ _ _); k_fold; walk1) | walk1 | (dsimp only; walk1) | (leave1; walk_say "STEP leave1"; try dsimp only) | fail "no step"))
  exact hret _ [] _ _ (by k_asm) (cb_drop (by k_asm) (by intro p hp; (try simp only [List.append_assoc, List.nil_append, List.cons_append, List.mem_cons, List.mem_append, List.not_mem_nil, or_false, false_or] at hp ⊢); first | exact hp | (simp only [hp, true_or, or_true]; done) | (rcases hp with hp | hp <;> simp only [hp, true_or, or_true] <;> done) | grind)) ⟨rfl, rfl⟩
theorem ct_fspathB {w mean mg mb} (x : Array UInt8) (t : Tok) : Ct w mean mg mb 1 108 [.bytes x t] (fun _ => True) (fun tl r => tl = [] ∧ r = .bytes x t) := by
  unfold Ct
  k_fill
  intro dp un gd cn cs a ccd cl outer A₀ base h₀ L m news s Q E B F X N T hk hpre hdp hun hret
  refine wpAny_call ?_
  k_dflt ktr_enter
  (repeat' (first | (k_unfold; (try dsimp only)) | ((with_reducible change (_ : Flow → Shared → Prop) _ _); k_unfold; (try dsimp only)) | (k_end; wrow_close) | ((with_reducible show wpAny _ _ (exec _ _) _ _ _); k_fold; walk1) | walk1 | (dsimp only; walk1) | (leave1; walk_say "STEP leave1"; try dsimp only) | fail "no step"))
  exact hret _ [] _ _ (by k_asm) (cb_drop (by k_asm) (by intro p hp; (try simp only [List.append_assoc, List.nil_append, List.cons_append, List.mem_cons, List.mem_append, List.not_mem_nil, or_false, false_or] at hp ⊢); first | exact hp | (simp only [hp, true_or, or_true]; done) | (rcases hp with hp | hp <;> simp only [hp, true_or, or_true] <;> done) | grind)) ⟨rfl, rfl⟩
end Mine

local macro_rules | `(tactic| walk_at "m ct") => `(tactic| first | exact Mine.ct_get_sep _ _ | exact Mine.ct_get_sepB _ _ | exact Mine.ct_fspath _ _ | exact Mine.ct_fspathB _ _)
local macro_rules | `(tactic| walk_at "m kp") => `(tactic| first | trivial | k_mem)
local macro_rules | `(tactic| walk_at "call ref") => `(tactic| (k_here; k_dflt (refine' Mine.Ct.use ?C ?k1 ?k2 ?k3 ?k4 ?k5 ?kK ?kp ?kd ?ku ?_; (case k1 => k_asm); (case k2 => k_asm); (case k3 => k_asm); (case k4 => k_asm); (case k5 => k_asm); (case kK => first | exact rfl | assumption); (case C => walk_at "m ct"); (case kd => ktr_room); (case ku => ktr_units); (case kp => walk_at "m kp")); (intro r9 tl9 h9 tk9 F9 N9 P9; (repeat ((first | (with_reducible obtain ⟨e9, P9⟩ : _ ∧ _ := P9) | (with_reducible obtain ⟨e9, P9⟩ : Exists _ := P9)); try subst e9)); (try (first | subst P9 | (walk_at "m len"))); (try dsimp only [List.nil_append, List.cons_append] at N9))))
theorem Mine.quietC2 : True := by
  w_top off
  trivial
namespace Mine
def splitH (x : Str) : Str :=
  if (((Txt.slice x none (some (Txt.rfind x (Str.ofString "/") + 1))).length : Nat) : Int) ≠ 0 then
    (if (Txt.slice x none (some (Txt.rfind x (Str.ofString "/") + 1)) != Txt.mul (Str.ofString "/") (((Txt.slice x none (some (Txt.rfind x (Str.ofString "/") + 1))).length : Nat) : Int)) = true
      then Txt.rstripChars (Txt.slice x none (some (Txt.rfind x (Str.ofString "/") + 1))) (Str.ofString "/") else Txt.slice x none (some (Txt.rfind x (Str.ofString "/") + 1)))
  else Txt.slice x none (some (Txt.rfind x (Str.ofString "/") + 1))
def splitT (x : Str) : Str := Txt.slice x (some (Txt.rfind x (Str.ofString "/") + 1)) none
theorem ct_split {w mean mg mb} (x : Str) (t : Tok) (hx : x.length ≤ 1000) : Ct w mean mg mb 3 143 [.str x t] (fun _ => True)
    (fun tl r => ∃ a n t1 t2, tl = [(a, ({ cls := .type "tuple", data := .seq [Value.str (splitH x) t1, Value.str (splitT x) t2].toArray n } : Obj))] ∧ r = .ref a) := by
  unfold Ct
  k_fill
  intro dp un gd cn cs a ccd cl outer A₀ base h₀ L m news s Q E B F X N T hk hpre hdp hun hret
  refine wpAny_call ?_
  k_dflt ktr_enter
  (repeat' (first | (k_unfold; (try dsimp only)) | ((with_reducible change (_ : Flow → Shared → Prop) _ _); k_unfold; (try dsimp only)) | (k_end; wrow_close) | ((with_reducible show wpAny _ _ (exec _ _) _ _ _); k_fold; walk1) | walk1 | (dsimp only; walk1) | (leave1; walk_say "STEP leave1"; try dsimp only) | fail "no step"))
  all_goals (refine hret _ _ _ _ (by k_asm) (led1 (by k_asm) (by intro p hp; (try simp only [List.append_assoc, List.nil_append, List.cons_append, List.mem_cons, List.mem_append, List.not_mem_nil, or_false, false_or] at hp ⊢); first | exact hp | (simp only [hp, true_or, or_true]; done) | (rcases hp with hp | hp <;> simp only [hp, true_or, or_true] <;> done) | grind)) ?_; unfold splitH splitT)
  · rw [if_pos (by assumption), if_pos (by assumption)]; exact ⟨_, _, _, _, rfl, rfl⟩
  · rw [if_pos (by assumption), if_neg (by simp [*])]; exact ⟨_, _, _, _, rfl, rfl⟩
  · rw [if_neg (by omega)]; exact ⟨_, _, _, _, rfl, rfl⟩
end Mine

local macro_rules | `(tactic| walk_at "m ct") => `(tactic| exact Mine.ct_split _ _ (by first | assumption | omega))
theorem Mine.quietC3 : True := by
  w_top off
  trivial
namespace Mine
abbrev dotD (x : Str) (n : Nat) : Bool := Txt.slice x (some (Txt.rfind x (Str.ofString "/") + 1 + n)) (some (Txt.rfind x (Str.ofString "/") + 1 + n + 1)) != Str.ofString "."
def USplit (x a b : Str) : Prop :=
  (Txt.rfind x (Str.ofString "/") < Txt.rfind x (Str.ofString ".") ∧ (∃ n : Nat, Txt.rfind x (Str.ofString "/") + 1 + n < Txt.rfind x (Str.ofString ".") ∧ dotD x n = true) ∧ a = Txt.slice x none (some (Txt.rfind x (Str.ofString "."))) ∧ b = Txt.slice x (some (Txt.rfind x (Str.ofString "."))) none) ∨
  ((¬ Txt.rfind x (Str.ofString "/") < Txt.rfind x (Str.ofString ".") ∨ ∀ n : Nat, Txt.rfind x (Str.ofString "/") + 1 + n < Txt.rfind x (Str.ofString ".") → dotD x n = false) ∧ a = x ∧ b = Txt.slice x none (some 0))
theorem usplit_len {r u v : Str} (h : USplit r u v) : u.length ≤ r.length ∧ v.length ≤ r.length := by
  rcases h with ⟨_, _, rfl, rfl⟩ | ⟨_, rfl, rfl⟩
  · exact ⟨Txt.slice_le _ _ _, Txt.slice_le _ _ _⟩
  · exact ⟨Nat.le_refl _, Txt.slice_le _ _ _⟩
set_option maxHeartbeats 4000000 in
theorem ct_usplitext {w mean mg mb} (x : Str) (t t2 t3 : Tok) (hx : x.length ≤ 1000) : Ct w mean mg mb 1 115 [.str x t, .str (Str.ofString "/") t2, .none, .str (Str.ofString ".") t3] (fun _ => True)
    (fun tl r => ∃ a n u v t1 t2, tl = [(a, ({ cls := .type "tuple", data := .seq [Value.str u t1, Value.str v t2].toArray n } : Obj))] ∧ r = .ref a ∧ USplit x u v) := by
  unfold Ct
  k_fill
  intro dp un gd cn cs a ccd cl outer A₀ base h₀ L m news s Q E B F X N T hk hpre hdp hun hret
  refine wpAny_call ?_
  k_dflt ktr_enter
  repeat' ((fail_if_success (with_reducible show wpAny _ _ (exec (Stmt.While _ _ _ _) _) _ _ _)); first | (k_unfold; (try dsimp only)) | ((with_reducible change (_ : Flow → Shared → Prop) _ _); k_unfold; (try dsimp only)) | (k_end; wrow_close) | ((with_reducible show wpAny _ _ (exec _ _) _ _ _); k_fold; walk1) | walk1 | (dsimp only; walk1) | (leave1; walk_say "STEP leave1"; try dsimp only) | fail "no step")
  · have hlt : Txt.rfind x (Str.ofString "/") < Txt.rfind x (Str.ofString ".") := by assumption
    refine' ksw_while (fun _ => news) (fun (c : Int × Tok) => [(Str.ofString "filenameIndex", Value.int c.1 c.2)]) (fun _ => True) [Str.ofString "filenameIndex"] (fun c => ∃ n : Nat, c.1 = Txt.rfind x (Str.ofString "/") + 1 + n ∧ Txt.rfind x (Str.ofString "/") + 1 + n ≤ Txt.rfind x (Str.ofString ".") ∧ ∀ j < n, dotD x j = false) (fun c => (Txt.rfind x (Str.ofString ".") - c.1).toNat) (Txt.rfind x (Str.ofString "/") + 1, _) (by k_asm) (by k_asm) trivial ?gk ?gp ?gt
    case gk => intro p hp; rw [List.mem_singleton.mp hp]; exact rfl
    case gp => exact ⟨0, by simp, by simp; omega, by simp⟩
    case gt =>
      rintro ⟨c, ct⟩ u h tk _ ⟨n, rfl, hn, hj⟩ F1 N1
      dsimp only at hn hj F1 N1 ⊢
      (repeat' (first | (k_unfold; (try dsimp only)) | ((with_reducible change (_ : Flow → Shared → Prop) _ _); k_unfold; (try dsimp only)) | (k_end; wrow_close) | ((with_reducible show wpAny _ _ (exec _ _) _ _ _); k_fold; walk1) | walk1 | (dsimp only; walk1) | (leave1; walk_say "STEP leave1"; try dsimp only) | fail "no step"))
      · exact hret _ _ _ _ (by k_asm) (led1 (by k_asm) (by intro p hp; (try simp only [List.append_assoc, List.nil_append, List.cons_append, List.mem_cons, List.mem_append, List.not_mem_nil, or_false, false_or] at hp ⊢); first | exact hp | (simp only [hp, true_or, or_true]; done) | (rcases hp with hp | hp <;> simp only [hp, true_or, or_true] <;> done) | grind)) ⟨_, _, _, _, _, _, rfl, rfl, .inl ⟨hlt, ⟨n, by assumption, by assumption⟩, rfl, rfl⟩⟩
      · refine' ksw_end (Txt.rfind x (Str.ofString "/") + 1 + n + 1, _) (by k_asm) (by k_asm) (fun p h => h) trivial ?gk ?gr ?gp ?gm
        case gk => intro p hp; rw [List.mem_singleton.mp hp]; exact rfl
        case gr =>
          intro z h2 h3
          have hz : z ≠ Str.ofString "filenameIndex" := h2 _ (.head _)
          simp only [kstB, hz, h3, if_false, Bool.false_eq_true]
          try rfl
        case gp =>
          refine ⟨n + 1, by (try dsimp only); omega, by (try dsimp only); omega, fun j hjn => ?_⟩
          rcases Nat.lt_or_ge j n with h1 | h1
          · exact hj j h1
          · have : j = n := by omega
            subst this; assumption
        case gm => (try dsimp only); omega
      · refine hret _ _ _ _ (by k_asm) (led1 (by k_asm) (by intro p hp; (try simp only [List.append_assoc, List.nil_append, List.cons_append, List.mem_cons, List.mem_append, List.not_mem_nil, or_false, false_or] at hp ⊢); first | exact hp | (simp only [hp, true_or, or_true]; done) | (rcases hp with hp | hp <;> simp only [hp, true_or, or_true] <;> done) | grind)) ⟨_, _, _, _, _, _, rfl, rfl, .inr ⟨.inr fun j h1 => hj j ?_, rfl, rfl⟩⟩
        omega
  · exact hret _ _ _ _ (by k_asm) (led1 (by k_asm) (by intro p hp; (try simp only [List.append_assoc, List.nil_append, List.cons_append, List.mem_cons, List.mem_append, List.not_mem_nil, or_false, false_or] at hp ⊢); first | exact hp | (simp only [hp, true_or, or_true]; done) | (rcases hp with hp | hp <;> simp only [hp, true_or, or_true] <;> done) | grind)) ⟨_, _, _, _, _, _, rfl, rfl, .inr ⟨.inl (by assumption), rfl, rfl⟩⟩
end Mine

local macro_rules | `(tactic| walk_at "m ct") => `(tactic| exact Mine.ct_usplitext _ _ _ _ (by first | assumption | omega))
local macro_rules | `(tactic| walk_at "m len") => `(tactic| obtain ⟨u9, v9⟩ := Mine.usplit_len (by assumption))
theorem Mine.quietC4 : True := by
  w_top off
  trivial
namespace Mine
theorem ct_splitext {w mean mg mb} (x : Str) (t : Tok) (hx : x.length ≤ 1000) : Ct w mean mg mb 3 150 [.str x t] (fun _ => True)
    (fun tl r => ∃ a n u v t1 t2, tl = [(a, ({ cls := .type "tuple", data := .seq [Value.str u t1, Value.str v t2].toArray n } : Obj))] ∧ r = .ref a ∧ USplit x u v) := by
  unfold Ct
  k_fill
  intro dp un gd cn cs a ccd cl outer A₀ base h₀ L m news s Q E B F X N T hk hpre hdp hun hret
  refine wpAny_call ?_
  k_dflt ktr_enter
  (repeat' (first | (k_unfold; (try dsimp only)) | ((with_reducible change (_ : Flow → Shared → Prop) _ _); k_unfold; (try dsimp only)) | (k_end; wrow_close) | ((with_reducible show wpAny _ _ (exec _ _) _ _ _); k_fold; walk1) | walk1 | (dsimp only; walk1) | (leave1; walk_say "STEP leave1"; try dsimp only) | fail "no step"))
  all_goals exact hret _ _ _ _ (by k_asm) (led1 (by k_asm) (by intro p hp; (try simp only [List.append_assoc, List.nil_append, List.cons_append, List.mem_cons, List.mem_append, List.not_mem_nil, or_false, false_or] at hp ⊢); first | exact hp | (simp only [hp, true_or, or_true]; done) | (rcases hp with hp | hp <;> simp only [hp, true_or, or_true] <;> done) | grind)) ⟨_, _, _, _, _, _, rfl, rfl, by assumption⟩
end Mine

local macro_rules | `(tactic| walk_at "m ct") => `(tactic| exact Mine.ct_splitext _ _ (by first | assumption | omega))
theorem Mine.quietC5 : True := by
  w_top off
  trivial
namespace Mine
def SJ {σ : Type} (ps : σ → List (Str × Value)) (stored : List Str) (m₀ : Str → Option Value) (P : σ → Led → Prop) (m : Str → Option Value) (nx : Led) : Prop :=
  ∃ c, P c nx ∧ (∀ p ∈ ps c, m p.1 = some p.2) ∧ (∀ z, (∀ p ∈ ps c, z ≠ p.1) → stored.contains z = false → m z = m₀ z)
theorem kst_map {ps : List (Str × Value)} {stored : List Str} {m₀ m₁ : Str → Option Value} (h1 : ∀ p ∈ ps, m₁ p.1 = some p.2) (h2 : ∀ z, (∀ p ∈ ps, z ≠ p.1) → stored.contains z = false → m₁ z = m₀ z) :
    kstB (fun z => if stored.contains z then m₁ z else m₀ z) ps = m₁ := by
  funext y
  refine kstB_eq h1 fun hn => ?_
  show (if stored.contains y = true then m₁ y else m₀ y) = m₁ y
  cases h3 : stored.contains y with
  | true => simp
  | false => simp only [Bool.false_eq_true, if_false]; exact (h2 y hn h3).symm
theorem SJ.init {σ : Type} {ps : σ → List (Str × Value)} {stored : List Str} {m₀ : Str → Option Value} {P : σ → Led → Prop} {nx : Led} (c : σ) (hP : P c nx) (h1 : ∀ p ∈ ps c, m₀ p.1 = some p.2) : SJ ps stored m₀ P m₀ nx := ⟨c, hP, h1, fun _ _ _ => rfl⟩

def dueStep (names runs : List Str) (left : Int) (text : Str) (k : Nat) : Str :=
  (if 0 < (k : Int) then (if (k : Int) ≤ left then text ++ runs.getD ((k : Int) - 1).toNat Str.empty else text ++ Str.ofString ".") else text) ++ names.getD (k : Int).toNat Str.empty
def dueAcc (names runs : List Str) (left : Int) (text : Str) (n : Nat) : Str := (List.range n).foldl (dueStep names runs left) text
def dueP (lead : Str) (names runs : List Str) (steps : Int) : Str :=
  dueAcc names runs (runs.length - steps) (if (runs.length : Int) - steps < 0 then lead ++ Txt.mul (Str.ofString ".") (0 - ((runs.length : Int) - steps)) else lead) names.length
theorem dueAcc_succ (names runs : List Str) (left : Int) (text : Str) (n : Nat) : dueAcc names runs left text (n + 1) = dueStep names runs left (dueAcc names runs left text n) n := by
  simp [dueAcc, List.range_succ]
theorem dueStep_len {names runs : List Str} (hn : ∀ y ∈ names, y.length ≤ 100) (hr : ∀ y ∈ runs, y.length ≤ 100) (left : Int) (text : Str) (k : Nat) : (dueStep names runs left text k).length ≤ text.length + 200 := by
  have g : ∀ (l : List Str), (∀ y ∈ l, y.length ≤ 100) → ∀ i, (l.getD i Str.empty).length ≤ 100 := by
    intro l hl i
    rw [List.getD_eq_getElem?_getD]
    cases h : l[i]? with
    | none => exact Nat.zero_le _
    | some y => exact hl y (List.mem_of_getElem? h)
  have h1 := g names hn (k : Int).toNat
  have h2 := g runs hr ((k : Int) - 1).toNat
  have h3 : (Str.ofString ".").length = 1 := by decide
  unfold dueStep
  (repeat' split) <;> simp only [Str.length_append] <;> omega
theorem dueAcc_len {names runs : List Str} (hn : ∀ y ∈ names, y.length ≤ 100) (hr : ∀ y ∈ runs, y.length ≤ 100) (left : Int) (text : Str) (n : Nat) : (dueAcc names runs left text n).length ≤ text.length + 200 * n := by
  induction n with
  | zero => exact Nat.le_refl _
  | succ n ih => rw [dueAcc_succ]; have := dueStep_len hn hr left (dueAcc names runs left text n) n; omega
set_option maxHeartbeats 4000000 in
theorem ct_due {w mean mg mb} (x : Str) (t t2 : Tok) (l1 l2 : Addr) (n1 n2 : Nat) (v1 v2 : List Value) (x1 x2 : List Str) (k : Int) (hs1 : StrsAre v1 x1) (hs2 : StrsAre v2 x2) (hl : x1.length ≤ 40) (hl2 : x2.length ≤ 40) (hk0 : 0 ≤ k) (hk1 : k ≤ 60) (hx : x.length ≤ 1000)
    (hle : x1.length ≤ x2.length + 1) (hb1 : ∀ y ∈ x1, y.length ≤ 100) (hb2 : ∀ y ∈ x2, y.length ≤ 100) :
  Ct w mean mg mb 1 172 [.str x t, .ref l1, .ref l2, .int k t2] (fun news => (l1, listOf v1.toArray n1) ∈ news ∧ (l2, listOf v2.toArray n2) ∈ news)
    (fun tl r => tl = [] ∧ ∃ t, r = .str (dueP x x1 x2 k) t) := by
  unfold Ct
  k_fill
  intro dp un gd cn cs a ccd cl outer A₀ base h₀ L m news s Q E B F X N T hk hpre hdp hun hret
  obtain ⟨hp1, hp2⟩ := hpre
  refine wpAny_call ?_
  k_dflt ktr_enter
  repeat' ((fail_if_success (with_reducible show wpAny _ _ (exec (Stmt.For _ _ _ _ _) _) _ _ _)); first | (k_unfold; (try dsimp only)) | ((with_reducible change (_ : Flow → Shared → Prop) _ _); k_unfold; (try dsimp only)) | (k_end; wrow_close) | ((with_reducible show wpAny _ _ (exec _ _) _ _ _); k_fold; walk1) | walk1 | (dsimp only; walk1) | (leave1; walk_say "STEP leave1"; try dsimp only) | fail "no step")
  all_goals refine For_F (by k_asm) (by rfl) (by rfl) ?_
  all_goals repeat' ((fail_if_success (with_reducible show wpAny _ _ (pyIter _) _ _ _)); first | (k_unfold; (try dsimp only)) | ((with_reducible change (_ : Flow → Shared → Prop) _ _); k_unfold; (try dsimp only)) | (k_end; wrow_close) | ((with_reducible show wpAny _ _ (exec _ _) _ _ _); k_fold; walk1) | walk1 | (dsimp only; walk1) | (leave1; walk_say "STEP leave1"; try dsimp only) | fail "no step")
  all_goals
    refine' loopRange (fun i => SJ (fun (c : Str × Tok) => [(Str.ofString "text", Value.str c.1 c.2)]) [Str.ofString "k", Str.ofString "text"] _ (fun c nx => nx = news ∧ c.1 = dueAcc x1 x2 (x2.length - k) (if (x2.length : Int) - k < 0 then x ++ Txt.mul (Str.ofString ".") (0 - ((x2.length : Int) - k)) else x) i)) rfl (by assumption) ?gs ?gz (by k_asm) (by k_asm) ?gi ?gt ?gd
    case gs => exact small_one (by omega) (by omega) (by omega) (by omega)
    case gz => exact rangeSize_nat _ _
    case gi =>
      refine' SJ.init (_, _) ⟨rfl, ?gg⟩ ?gh
      case gh => intro p hp; rw [List.mem_singleton.mp hp]; exact rfl
      case gg =>
        simp only [dueAcc, List.range_zero, List.foldl_nil]
        first | rw [if_pos (by assumption)] | rw [if_neg (by assumption)]
    case gt =>
      rintro i u m₁ nx h tk own oI hi ⟨⟨y, ty⟩, ⟨rfl, hy⟩, h1, h2⟩ ha hown F1 N1
      rw [← kst_map h1 h2] at F1
      dsimp only at hy F1
      have hylen : y.length ≤ 20000 := by
        have g := dueAcc_len hb1 hb2 (x2.length - k) (if (x2.length : Int) - k < 0 then x ++ Txt.mul (Str.ofString ".") (0 - ((x2.length : Int) - k)) else x) i
        rw [← hy] at g
        first
          | (rw [if_pos (by assumption)] at g; have g2 := Str.length_append x (Txt.mul (Str.ofString ".") (0 - ((x2.length : Int) - k))); omega)
          | (rw [if_neg (by assumption)] at g; omega)
      (repeat' (first | (k_unfold; (try dsimp only)) | ((with_reducible change (_ : Flow → Shared → Prop) _ _); k_unfold; (try dsimp only)) | (k_end; wrow_close) | ((with_reducible show wpAny _ _ (exec _ _) _ _ _); k_fold; walk1) | walk1 | (dsimp only; walk1) | (leave1; walk_say "STEP leave1"; try dsimp only) | fail "no step"))
      all_goals
        dsimp only [LPost]
        refine LEnd.intro nx (by k_asm) (by k_asm) (fun p hp => List.mem_append_left _ hp) (fun p hp => List.mem_append_right _ hp) ha ⟨(_, _), ⟨rfl, ?_⟩, (by intro p hp; rw [List.mem_singleton.mp hp]; exact rfl), (by (intro z h2 h3; (have h4 := h3); (simp only [List.contains_cons, List.contains_nil, Bool.or_false, Bool.or_eq_false_iff, beq_eq_false_iff_ne, ne_eq] at h4); (simp only [List.forall_mem_cons, List.not_mem_nil, false_implies, implies_true, and_true, ne_eq] at h2); (try simp only [kstB, h2, h3, h4, if_false, Bool.false_eq_true]); try rfl))⟩
        dsimp only
        rw [dueAcc_succ, ← hy]
        unfold dueStep
        first
          | (rw [if_pos (by omega), if_pos (by omega)]; done)
          | (rw [if_pos (by omega), if_neg (by omega)]; done)
          | (rw [if_neg (by omega)]; done)
    case gd =>
      rintro m₁ nx h tk ⟨⟨y, ty⟩, ⟨rfl, hy⟩, h1, h2⟩ F1 N1
      rw [← kst_map h1 h2] at F1
      dsimp only at hy F1
      (repeat' (first | (k_unfold; (try dsimp only)) | ((with_reducible change (_ : Flow → Shared → Prop) _ _); k_unfold; (try dsimp only)) | (k_end; wrow_close) | ((with_reducible show wpAny _ _ (exec _ _) _ _ _); k_fold; walk1) | walk1 | (dsimp only; walk1) | (leave1; walk_say "STEP leave1"; try dsimp only) | fail "no step"))
      refine hret _ [] _ _ (by k_asm) (by k_asm) ⟨rfl, ty, ?_⟩
      rw [hy, show ((x1.length : Int) - 0).toNat = x1.length by omega]
      rfl
end Mine

theorem Mine.quietC6 : True := by
  w_top off
  trivial
namespace Mine
def wName (x y : Str) : Str := Txt.slice y (some ((x.length : Nat) : Int)) none
theorem one_dot' (y : Str) (n : Nat) : (Txt.slice y (some (n : Int)) (some ((n : Int) + 1)) == Str.ofString ".") = decide ((tl y)[n]? = some 46) := by
  have h := one_dot (tl y) n
  rwa [S_tl] at h
def WordsP (x y root : Str) (ws : List Str) : Prop :=
  ∃ n : Nat, n ≤ (wName x y).length ∧ (∀ j < n, (tl (wName x y))[j]? = some 46) ∧ (tl (wName x y))[n]? ≠ some 46 ∧ ∃ parts, parts = Txt.split (Txt.slice (wName x y) (some (n : Int)) none) (Str.ofString ".") ∧
    root = x ++ Txt.mul (Str.ofString ".") n ++ parts.getD 0 Str.empty ∧ ws = parts.drop 1
set_option maxHeartbeats 1000000 in
theorem ct_words {w mean mg mb} (x y : Str) (t t2 : Tok) (hx : x.length ≤ 1000) (hy : y.length ≤ 1000) : Ct w mean mg mb 1 179 [.str x t, .str y t2] (fun news => True) 
    (fun tl r => ∃ a n b k v t ws root, tl = [(a, ({ cls := .type "tuple", data := .seq [Value.str root t, Value.ref b].toArray n } : Obj)), (b, PySem.W.listOf v.toArray k)] ∧ r = .ref a ∧ StrsAre v ws ∧ WordsP x y root ws) := by
  unfold Ct
  k_fill
  intro dp un gd cn cs a ccd cl outer A₀ base h₀ L m news s Q E B F X N T hk hpre hdp hun hret
  refine wpAny_call ?_
  k_dflt ktr_enter
  repeat' ((fail_if_success (with_reducible show wpAny _ _ (exec (Stmt.While _ _ _ _) _) _ _ _)); first | (k_unfold; (try dsimp only)) | ((with_reducible change (_ : Flow → Shared → Prop) _ _); k_unfold; (try dsimp only)) | (k_end; wrow_close) | ((with_reducible show wpAny _ _ (exec _ _) _ _ _); k_fold; walk1) | walk1 | (dsimp only; walk1) | (leave1; walk_say "STEP leave1"; try dsimp only) | fail "no step")
  (with_reducible rename Fr _ _ _ _ => kF0); (try dsimp only at kF0)
  refine' whileF (fun (c : Int × Tok) => [(Str.ofString "dots", Value.int c.1 c.2)]) [Str.ofString "dots"] (fun c => ∃ n : Nat, c.1 = n ∧ n ≤ (wName x y).length ∧ ∀ j < n, (tl (wName x y))[j]? = some 46) (fun c => ((wName x y).length - c.1).toNat) (0, _) (by k_asm) (by k_asm) ?gk ?gp ?gt
  case gk => intro p hp; rw [List.mem_singleton.mp hp]; exact rfl
  case gp => exact ⟨0, rfl, Nat.zero_le _, by simp⟩
  case gt =>
    rintro ⟨c, ct⟩ u h tk ⟨n, rfl, hn, hj⟩ F1 N1
    dsimp only at hn hj F1 N1 ⊢
    have hw : (wName x y).length ≤ 1000 := Nat.le_trans (Txt.slice_le _ _ _) hy
    have hn2 : n ≤ 1000 := Nat.le_trans hn hw
    repeat' ((fail_if_success (with_reducible show wpAny _ _ (call (Value.builtin "str.split") _) _ _ _)); first | (k_unfold; (try dsimp only)) | ((with_reducible change (_ : Flow → Shared → Prop) _ _); k_unfold; (try dsimp only)) | (k_end; wrow_close) | ((with_reducible show wpAny _ _ (exec _ _) _ _ _); k_fold; walk1) | walk1 | (dsimp only; walk1) | (leave1; walk_say "STEP leave1"; try dsimp only) | fail "no step")
    · refine' WPost.next ((n : Int) + 1, _) (by k_asm) (by k_asm) (fun p h => h) ?gk ?gr ?gp ?gm
      case gk => intro p hp; rw [List.mem_singleton.mp hp]; exact rfl
      case gr => (intro z h2 h3; (have h4 := h3); (simp only [List.contains_cons, List.contains_nil, Bool.or_false, Bool.or_eq_false_iff, beq_eq_false_iff_ne, ne_eq] at h4); (simp only [List.forall_mem_cons, List.not_mem_nil, false_implies, implies_true, and_true, ne_eq] at h2); (try simp only [kstB, h2, h3, h4, if_false, Bool.false_eq_true]); try rfl)
      case gp =>
        have hd : (Txt.slice (wName x y) (some (n : Int)) (some ((n : Int) + 1)) == Str.ofString ".") = true := by assumption
        rw [one_dot', decide_eq_true_eq] at hd
        have hlt : n < (wName x y).length := by
          rw [← len_tl]
          exact (List.getElem?_eq_some_iff.mp hd).1
        refine ⟨n + 1, by (try dsimp only); omega, hlt, fun j hjn => ?_⟩
        rcases Nat.lt_or_ge j n with h1 | h1
        · exact hj j h1
        · have : j = n := by omega
          subst this; exact hd
      case gm =>
        have hd : (Txt.slice (wName x y) (some (n : Int)) (some ((n : Int) + 1)) == Str.ofString ".") = true := by assumption
        rw [one_dot', decide_eq_true_eq] at hd
        have hlt : n < (wName x y).length := by
          rw [← len_tl]
          exact (List.getElem?_eq_some_iff.mp hd).1
        (try dsimp only); omega
    · (repeat' (first | (k_unfold; (try dsimp only)) | ((with_reducible change (_ : Flow → Shared → Prop) _ _); k_unfold; (try dsimp only)) | (k_end; wrow_close) | ((with_reducible show wpAny _ _ (exec _ _) _ _ _); k_fold; walk1) | walk1 | (dsimp only; walk1) | (leave1; walk_say "STEP leave1"; try dsimp only) | fail "no step"))
      refine hret _ _ _ _ (by k_asm) (led2 (by k_asm) (by intro p hp; (try simp only [List.append_assoc, List.nil_append, List.cons_append, List.mem_cons, List.mem_append, List.not_mem_nil, or_false, false_or] at hp ⊢); first | exact hp | (simp only [hp, true_or, or_true]; done) | (rcases hp with hp | hp <;> simp only [hp, true_or, or_true] <;> done) | grind)) ⟨_, _, _, _, _, _, _, _, rfl, rfl, by assumption, n, hn, hj, ?_, _, by assumption, rfl, rfl⟩
      have hd : (Txt.slice (wName x y) (some (n : Int)) (some ((n : Int) + 1)) == Str.ofString ".") = false := by assumption
      rw [one_dot', decide_eq_false_iff_not] at hd
      exact hd
end Mine

theorem Mine.quietC7 : True := by
  w_top off
  trivial
namespace Mine
def laidP (root : Str) (ws : List Str) : Str :=
  if ws ≠ [] ∧ lastS ws = Str.ofString "" then Str.join (Str.ofString "/") ([root] ++ ws.filter (fun z => z != Str.ofString "")) ++ Str.ofString "/" else Str.join (Str.ofString "/") ([root] ++ ws.filter (fun z => z != Str.ofString ""))
theorem laid_1 {root z : Str} {ws : List Str} {b : Bool} (hz : z = Str.join (Str.ofString "/") ([root] ++ ws.filter (fun z => z != Str.ofString ""))) (hb : b = true ↔ ws ≠ []) (h1 : b = true) (h2 : (lastS ws == Str.ofString "") = true) : z ++ Str.ofString "/" = laidP root ws := by
  unfold laidP
  rw [if_pos ⟨hb.mp h1, by simpa using h2⟩, hz]
theorem laid_2 {root z : Str} {ws : List Str} (hz : z = Str.join (Str.ofString "/") ([root] ++ ws.filter (fun z => z != Str.ofString ""))) (h2 : (lastS ws == Str.ofString "") = false) : z = laidP root ws := by
  unfold laidP
  rw [if_neg (fun h => by rw [h.2] at h2; simp at h2), hz]
theorem laid_3 {root z : Str} {ws : List Str} {b : Bool} (hz : z = Str.join (Str.ofString "/") ([root] ++ ws.filter (fun z => z != Str.ofString ""))) (hb : b = true ↔ ws ≠ []) (h1 : b = false) : z = laidP root ws := by
  unfold laidP
  rw [if_neg (fun h => by rw [hb.mpr h.1] at h1; cases h1), hz]
set_option maxHeartbeats 1000000 in
theorem ct_laid {w mean mg mb} (x : Str) (t : Tok) (l1 : Addr) (n1 : Nat) (v1 : List Value) (x1 : List Str) (hs1 : StrsAre v1 x1) (hl : x1.length ≤ 2000) (hx : x.length ≤ 5000) (hb1 : ∀ y ∈ x1, y.length ≤ 5000) (ho1 : ∀ y ∈ x1, PyData.strOk y = true) :
  Ct w mean mg mb 12 191 [.str x t, .ref l1] (fun news => (l1, PySem.W.listOf v1.toArray n1) ∈ news) (fun tl r => tl = [] ∧ ∃ t, r = .str (laidP x x1) t) := by
  unfold Ct
  k_fill
  intro dp un gd cn cs a ccd cl outer A₀ base h₀ L m news s Q E B F X N T hk hpre hdp hun hret
  refine wpAny_call ?_
  k_dflt ktr_enter
  (refine Mine.lets2 ?_; intro lM lA); (refine Mine.letE ?_; intro lE)
  repeat' ((fail_if_success (with_reducible show wpAny _ _ (eval (PySem.Expr.ListComp _ _ _ _) _) _ _ _)); first | (k_unfold; (try dsimp only)) | ((with_reducible change (_ : Flow → Shared → Prop) _ _); k_unfold; (try dsimp only)) | (k_end; wrow_close) | ((with_reducible show wpAny _ _ (exec _ _) _ _ _); k_fold; walk1) | walk1 | (dsimp only; walk1) | (leave1; walk_say "STEP leave1"; try dsimp only) | fail "no step")
  refine LCt.ListComp_T (by k_asm) (by rfl) (by decide) (by rfl) (by decide) (by rfl) ?_
  repeat' ((fail_if_success (with_reducible show LCt.CompSrcT _ _ _ _ _ _ _ _ _ _ _ _ _ _ _)); first | (k_unfold; (try dsimp only)) | ((with_reducible change (_ : Flow → Shared → Prop) _ _); k_unfold; (try dsimp only)) | (k_end; wrow_close) | ((with_reducible show wpAny _ _ (exec _ _) _ _ _); k_fold; walk1) | walk1 | (dsimp only; walk1) | (leave1; walk_say "STEP leave1"; try dsimp only) | fail "no step")
  refine srcT_led rfl (by k_asm) (by k_asm) (by k_mem) (by rw [hs1.length]; omega) (fun g9 => restT_strs hs1 (fun z => z != Str.ofString "") (fun z => z) ?_ ?_)
  · intro z t9 I oI C oC D m₂ ys h tk E' R R2 hz hC hx2 F1 N1 off ne hp1 hp2
    (repeat' (first | (k_unfold; (try dsimp only)) | ((with_reducible change (_ : Flow → Shared → Prop) _ _); k_unfold; (try dsimp only)) | (k_end; wrow_close) | ((with_reducible show wpAny _ _ (exec _ _) _ _ _); k_fold; walk1) | walk1 | (dsimp only; walk1) | (leave1; walk_say "STEP leave1"; try dsimp only) | fail "no step"))
    · (refine LCg.CompEnd.intro (by k_asm) (by k_asm) _ (fun p hp => hp) (by assumption) (.inr ⟨_, by k_mem, rfl, _, rfl⟩) ?_)
      exact hp1 (by assumption) _
    · (refine LCg.CompEnd.intro (by k_asm) (by k_asm) _ (fun p hp => hp) (by assumption) (.inr ⟨_, by k_mem, rfl, _, rfl⟩) ?_)
      exact hp2 (by assumption)
  · intro ys hys D h tk F1 N1 off
    have hys2 : StrsAre ys (x1.filter (fun z => z != Str.ofString "")) := by simpa using hys
    have hfl : (x1.filter (fun z => z != Str.ofString "")).length ≤ 2000 := Nat.le_trans (List.length_filter_le _ _) hl
    have hfb : ∀ y ∈ [x] ++ x1.filter (fun z => z != Str.ofString ""), y.length ≤ 5000 := by
      intro y hy
      rcases List.mem_append.mp hy with hy | hy
      · rw [List.mem_singleton.mp hy]; exact hx
      · exact hb1 y (List.mem_filter.mp hy).1
    have hfn : ([x] ++ x1.filter (fun z => z != Str.ofString "")).length ≤ 3000 := by rw [List.length_append, List.length_singleton]; omega
    clear hys
    (repeat' (first | (k_unfold; (try dsimp only)) | ((with_reducible change (_ : Flow → Shared → Prop) _ _); k_unfold; (try dsimp only)) | (k_end; wrow_close) | ((with_reducible show wpAny _ _ (exec _ _) _ _ _); k_fold; walk1) | walk1 | (dsimp only; walk1) | (leave1; walk_say "STEP leave1"; try dsimp only) | fail "no step"))
    · exact hret _ [] _ _ (by k_asm) (cb_drop (by k_asm) (by intro p hp; (try simp only [List.append_assoc, List.nil_append, List.cons_append, List.mem_cons, List.mem_append, List.not_mem_nil, or_false, false_or] at hp ⊢); first | exact hp | (simp only [hp, true_or, or_true]; done) | (rcases hp with hp | hp <;> simp only [hp, true_or, or_true] <;> done) | grind)) ⟨rfl, _, congrArg (fun q => Value.str q _) (laid_1 (by assumption) (by assumption) (by assumption) (by assumption))⟩
    · exact hret _ [] _ _ (by k_asm) (cb_drop (by k_asm) (by intro p hp; (try simp only [List.append_assoc, List.nil_append, List.cons_append, List.mem_cons, List.mem_append, List.not_mem_nil, or_false, false_or] at hp ⊢); first | exact hp | (simp only [hp, true_or, or_true]; done) | (rcases hp with hp | hp <;> simp only [hp, true_or, or_true] <;> done) | grind)) ⟨rfl, _, congrArg (fun q => Value.str q _) (laid_2 (by assumption) (by assumption))⟩
    · exact hret _ [] _ _ (by k_asm) (cb_drop (by k_asm) (by intro p hp; (try simp only [List.append_assoc, List.nil_append, List.cons_append, List.mem_cons, List.mem_append, List.not_mem_nil, or_false, false_or] at hp ⊢); first | exact hp | (simp only [hp, true_or, or_true]; done) | (rcases hp with hp | hp <;> simp only [hp, true_or, or_true] <;> done) | grind)) ⟨rfl, _, congrArg (fun q => Value.str q _) (laid_3 (by assumption) (by assumption) (by assumption))⟩
end Mine

theorem Mine.quietC8 : True := by
  w_top off
  trivial
namespace Mine
theorem usplit_short {r u v : Str} (h : USplit r u v) (hv : (v == Str.ofString "") = false) : u.length + 1 ≤ r.length ∧ v.length ≤ r.length := by
  have hv' : v ≠ S [] := by
    intro e
    rw [e, ← S_nil] at hv
    simp at hv
  rcases h with ⟨h1, _, hu, hw⟩ | ⟨_, _, hw⟩
  · have hs : -1 ≤ Txt.rfind r (Str.ofString "/") := by
      unfold Txt.rfind
      split <;> omega
    obtain ⟨k, hk⟩ : ∃ k : Nat, Txt.rfind r (Str.ofString ".") = k := ⟨(Txt.rfind r (Str.ofString ".")).toNat, by omega⟩
    rw [hk] at hu hw
    have hr : r = S (tl r) := (S_tl r).symm
    rw [hr, slice_sn] at hw
    rw [hr, slice_ns] at hu
    have hlt : k < (tl r).length := by
      rcases Nat.lt_or_ge k (tl r).length with h2 | h2
      · exact h2
      · rw [List.drop_eq_nil_iff.mpr h2] at hw
        exact absurd hw hv'
    rw [len_tl] at hlt
    refine ⟨?_, ?_⟩
    · rw [hu, len_S, List.length_take, len_tl]; omega
    · rw [hw, len_S, List.length_drop, len_tl]; omega
  · have hr : r = S (tl r) := (S_tl r).symm
    have e : Txt.slice r none (some 0) = S [] := by
      rw [hr]; exact slice_ns (tl r) 0
    exact absurd (hw.trans e) hv'
inductive Peel (x : Str) : Nat → Str → List Str → Prop
  | zero : Peel x 0 x []
  | step {i : Nat} {r u v : Str} {ws : List Str} : Peel x i r ws → USplit r u v → (v == Str.ofString "") = false → Peel x (i + 1) u ([Txt.slice v (some 1) none] ++ ws)
structure PeelSt where
  rest : Str
  tr : Tok
  wa : Addr
  vs : List Value
  ws : List Str
  n : Nat
set_option maxHeartbeats 1000000 in
theorem ct_peeled {w mean mg mb} (x : Str) (t : Tok) (hx : x.length ≤ 1000) : Ct w mean mg mb 5 186 [.str x t] (fun news => True)
    (fun tl r => ∃ a n b k v t ws rest i u z, tl = [(a, ({ cls := .type "tuple", data := .seq [Value.str rest t, Value.ref b].toArray n } : Obj)), (b, PySem.W.listOf v.toArray k)] ∧ r = .ref a ∧ StrsAre v ws ∧ Peel x i rest ws ∧ USplit rest u z ∧ (z == Str.ofString "") = true) := by
  unfold Ct
  k_fill
  intro dp un gd cn cs a ccd cl outer A₀ base h₀ L m news s Q E B F X N T hk hpre hdp hun hret
  refine wpAny_call ?_
  k_dflt ktr_enter
  repeat' ((fail_if_success (with_reducible show wpAny _ _ (exec (Stmt.For _ _ _ _ _) _) _ _ _)); first | (k_unfold; (try dsimp only)) | ((with_reducible change (_ : Flow → Shared → Prop) _ _); k_unfold; (try dsimp only)) | (k_end; wrow_close) | ((with_reducible show wpAny _ _ (exec _ _) _ _ _); k_fold; walk1) | walk1 | (dsimp only; walk1) | (leave1; walk_say "STEP leave1"; try dsimp only) | fail "no step")
  refine For_F (by k_asm) (by rfl) (by rfl) ?_
  repeat' ((fail_if_success (with_reducible show wpAny _ _ (pyIter _) _ _ _)); first | (k_unfold; (try dsimp only)) | ((with_reducible change (_ : Flow → Shared → Prop) _ _); k_unfold; (try dsimp only)) | (k_end; wrow_close) | ((with_reducible show wpAny _ _ (exec _ _) _ _ _); k_fold; walk1) | walk1 | (dsimp only; walk1) | (leave1; walk_say "STEP leave1"; try dsimp only) | fail "no step")
  (with_reducible rename Fr _ _ _ _ => kF0); (try dsimp only at kF0)
  refine' loopRange (fun i => SJ (fun (c : PeelSt) => [(Str.ofString "rest", Value.str c.rest c.tr), (Str.ofString "words", Value.ref c.wa)]) [Str.ofString "k", Str.ofString "root", Str.ofString "ending"] _ (fun c nx => nx = (c.wa, PySem.W.listOf c.vs.toArray c.n) :: news ∧ StrsAre c.vs c.ws ∧ Peel x i c.rest c.ws ∧ c.rest.length + i ≤ x.length ∧ c.ws.length ≤ i ∧ (∀ y ∈ c.ws, y.length ≤ 1000))) rfl (by assumption) ?gs ?gz (by k_asm) (by k_asm) ?gi ?gt ?gd
  case gs => exact small_one (by omega) (by omega) (by omega) (by omega)
  case gz => exact rangeSize_nat _ _
  case gi =>
    refine' SJ.init ⟨x, _, _, [], [], _⟩ ⟨rfl, .nil, .zero, by (try dsimp only); omega, by simp, by simp⟩ ?gh
    case gh => intro p hp; rcases List.mem_cons.mp hp with rfl | hp; exact rfl; rw [List.mem_singleton.mp hp]; exact rfl
  case gt =>
    rintro i u m₁ nx h tk own oI hi ⟨⟨rest, tr, wa, vs, ws, n⟩, ⟨rfl, hvs, hpl, hlen, hwl, hwb⟩, h1, h2⟩ ha hown F1 N1
    rw [← kst_map h1 h2] at F1
    dsimp only at hvs hpl hlen hwl hwb F1 N1 ha
    have hr : rest.length ≤ 1000 := by omega
    have hwl2 : ws.length ≤ 10000 := by omega
    (repeat' (first | (k_unfold; (try dsimp only)) | ((with_reducible change (_ : Flow → Shared → Prop) _ _); k_unfold; (try dsimp only)) | (k_end; wrow_close) | ((with_reducible show wpAny _ _ (exec _ _) _ _ _); k_fold; walk1) | walk1 | (dsimp only; walk1) | (leave1; walk_say "STEP leave1"; try dsimp only) | fail "no step"))
    · dsimp only [LPost]
      (repeat' (first | (k_unfold; (try dsimp only)) | ((with_reducible change (_ : Flow → Shared → Prop) _ _); k_unfold; (try dsimp only)) | (k_end; wrow_close) | ((with_reducible show wpAny _ _ (exec _ _) _ _ _); k_fold; walk1) | walk1 | (dsimp only; walk1) | (leave1; walk_say "STEP leave1"; try dsimp only) | fail "no step"))
      exact hret _ _ _ _ (by k_asm) (led1x (q2 := (wa, PySem.W.listOf vs.toArray n)) (by k_asm) (by k_mem) (by intro p hp; (try simp only [List.append_assoc, List.nil_append, List.cons_append, List.mem_cons, List.mem_append, List.not_mem_nil, or_false, false_or] at hp ⊢); first | exact hp | (simp only [hp, true_or, or_true]; done) | (rcases hp with hp | hp <;> simp only [hp, true_or, or_true] <;> done) | grind)) ⟨_, _, _, _, _, _, _, _, i, _, _, rfl, rfl, hvs, hpl, by assumption, by assumption⟩
    · dsimp only [LPost]
      rename StrsAre _ (_ ++ ws) => hvc
      rename USplit _ _ _ => hus
      rename (_ == Str.ofString "") = false => hne
      obtain ⟨hsh, hvl⟩ := usplit_short hus hne
      refine' LEnd.intro _ (by k_asm) (by k_asm) ?gn ?go ?ga ⟨⟨_, _, _, _, _, 0⟩, ⟨rfl, hvc, .step hpl hus hne, ?gl, ?gw, ?gb⟩, ?gk, ?gr⟩
      case gk => intro p hp; rcases List.mem_cons.mp hp with rfl | hp; exact rfl; rw [List.mem_singleton.mp hp]; exact rfl
      case gr => (intro z h2 h3; (have h4 := h3); (simp only [List.contains_cons, List.contains_nil, Bool.or_false, Bool.or_eq_false_iff, beq_eq_false_iff_ne, ne_eq] at h4); (simp only [List.forall_mem_cons, List.not_mem_nil, false_implies, implies_true, and_true, ne_eq] at h2); (try simp only [kstB, h2, h3, h4, if_false, Bool.false_eq_true]); try rfl)
      case gl => (try dsimp only); omega
      case gw => simp only [List.length_append, List.length_singleton]; omega
      case gb =>
        intro y hy
        rcases List.mem_append.mp hy with hy | hy
        · rw [List.mem_singleton.mp hy]; exact Nat.le_trans (Txt.slice_le _ _ _) (Nat.le_trans hvl hr)
        · exact hwb y hy
      case gn => intro p hp; (try simp only [List.append_assoc, List.nil_append, List.cons_append, List.mem_cons, List.mem_append, List.not_mem_nil, or_false, false_or] at hp ⊢); first | exact hp | (simp only [hp, true_or, or_true]; done) | (rcases hp with hp | hp <;> simp only [hp, true_or, or_true] <;> done) | grind
      case go => intro p hp; (try simp only [List.append_assoc, List.nil_append, List.cons_append, List.mem_cons, List.mem_append, List.not_mem_nil, or_false, false_or] at hp ⊢); first | exact hp | (simp only [hp, true_or, or_true]; done) | (rcases hp with hp | hp <;> simp only [hp, true_or, or_true] <;> done) | grind
      case ga =>
        intro p hp
        rcases List.mem_cons.mp hp with rfl | hp
        · exact Nat.ne_of_gt (ltAll (q := (_, oI)) (by assumption) (by repeat (first | exact hown | exact List.mem_append_right _ hown | refine List.mem_cons_of_mem _ ?_)))
        · exact ha p (.tail _ hp)
  case gd =>
    rintro m₁ nx h tk ⟨⟨rest, tr, wa, vs, ws, n⟩, ⟨rfl, hvs, hpl, hlen, hwl, hwb⟩, h1, h2⟩ F1 N1
    exfalso
    dsimp only at hlen
    omega
end Mine

theorem Mine.quietC9 : True := by
  w_top off
  trivial
namespace Mine
structure PS where
  lead : Str
  names : List Str
  runs : List Str
  last : Str
def stepP (c : Nat) (s : PS) : PS :=
  if S [c] ≠ Str.ofString "/" then { s with names := setLast s.names (lastS s.names ++ S [c]), last := S [c] }
  else if s.names = [Str.ofString ""] then { s with lead := s.lead ++ Str.ofString "/", last := S [c] }
  else if s.last = Str.ofString "/" then { s with runs := setLast s.runs (lastS s.runs ++ Str.ofString "/"), last := S [c] }
  else { s with runs := s.runs ++ [Str.ofString "/"], names := s.names ++ [Str.ofString ""], last := S [c] }
def initP : PS := ⟨Str.ofString "", [Str.ofString ""], [], Str.ofString ""⟩
def partsP (l : List Nat) : PS := l.foldl (fun s c => stepP c s) initP
structure PInv (i : Nat) (s : PS) : Prop where
  ne : s.names ≠ []
  run : s.last = Str.ofString "/" → s.names ≠ [Str.ofString ""] → s.runs ≠ []
  l1 : s.names.length ≤ i + 1
  l2 : s.runs.length ≤ i
  l3 : ∀ y ∈ s.names, y.length ≤ i
  l4 : ∀ y ∈ s.runs, y.length ≤ i
  l5 : s.lead.length ≤ i
  ok : ∀ y ∈ s.names, PyData.strOk y = true
theorem initInv : PInv 0 initP := ⟨by simp [initP], fun h => by have : Str.ofString "" ≠ Str.ofString "/" := by decide
                                                                exact absurd h this, by simp [initP], by simp [initP], by
    intro y hy
    rw [List.mem_singleton.mp hy]; decide, by simp [initP], by decide, by
    intro y hy
    rw [List.mem_singleton.mp hy]; decide +kernel⟩
theorem okNil : ∀ x ∈ [Str.ofString ""], PyData.strOk x = true := by
  intro y hy
  rw [List.mem_singleton.mp hy]; decide +kernel
theorem lastS_len {l : List Str} {b : Nat} (h : ∀ y ∈ l, y.length ≤ b) : (lastS l).length ≤ b := getD_len h _
theorem mem_setLast {l : List Str} {z y : Str} (h : y ∈ setLast l z) : y ∈ l ∨ y = z := List.mem_or_eq_of_mem_set h
theorem lastS_mem {l : List Str} (h : l ≠ []) : lastS l ∈ l := by
  have h1 : l.length - 1 < l.length := by have := List.length_pos_iff.mpr h; omega
  unfold lastS
  rw [List.getD_eq_getElem?_getD, List.getElem?_eq_getElem h1]
  exact List.getElem_mem h1
theorem strOk_app {a b : Str} (ha : PyData.strOk a = true) (hb : PyData.strOk b = true) : PyData.strOk (a ++ b) = true := by
  unfold PyData.strOk at *
  rw [Str.cps_append, Array.all_append, ha, hb]; rfl
theorem strOk_one {c : Nat} (h : c < 128) : PyData.strOk (S [c]) = true := by
  unfold PyData.strOk
  simp [S]; omega
theorem parts_succ {x : Str} {i c : Nat} (hi : x.cps[i]? = some c) : partsP ((tl x).take (i + 1)) = stepP c (partsP ((tl x).take i)) := by
  have h : (tl x)[i]? = some c := by unfold tl; rw [Array.getElem?_toList]; exact hi
  unfold partsP
  rw [List.take_add_one, h]
  simp
theorem invStep {i c : Nat} {s : PS} (hc : c < 128) (h : PInv i s) : PInv (i + 1) (stepP c s) := by
  obtain ⟨hn, hr, q1, q2, q3, q4, q5, q6⟩ := h
  have hsl : (Str.ofString "/").length = 1 := by decide
  have hnil : (Str.ofString "").length = 0 := by decide
  have hc1 : (S [c]).length = 1 := len_S _
  have q3' : ∀ y ∈ s.names, y.length ≤ i + 1 := fun y hy => Nat.le_succ_of_le (q3 y hy)
  have q4' : ∀ y ∈ s.runs, y.length ≤ i + 1 := fun y hy => Nat.le_succ_of_le (q4 y hy)
  have hpos := List.length_pos_iff.mpr hn
  unfold stepP
  split
  · rename_i h1
    refine ⟨?_, fun h2 => absurd h2 h1, ?_, Nat.le_succ_of_le q2, ?_, q4', Nat.le_succ_of_le q5, ?_⟩
    · intro e
      have := congrArg List.length e
      simp only [setLast, List.length_set, List.length_nil] at this
      omega
    · simp only [setLast, List.length_set]; omega
    · intro y hy
      rcases mem_setLast hy with h2 | rfl
      · exact q3' y h2
      · rw [Str.length_append, hc1]; have := lastS_len q3; omega
    · intro y hy
      rcases mem_setLast hy with h2 | rfl
      · exact q6 y h2
      · exact strOk_app (q6 _ (lastS_mem hn)) (strOk_one hc)
  · split
    · rename_i h2
      refine ⟨hn, fun _ h3 => absurd h2 h3, Nat.le_succ_of_le q1, Nat.le_succ_of_le q2, q3', q4', ?_, q6⟩
      simp only [Str.length_append, hsl]; omega
    · split
      · rename_i h1 h2 h3
        have hrn := hr h3 h2
        have hpos2 := List.length_pos_iff.mpr hrn
        refine ⟨hn, fun _ _ e => ?_, Nat.le_succ_of_le q1, ?_, q3', ?_, Nat.le_succ_of_le q5, q6⟩
        · have := congrArg List.length e
          simp only [setLast, List.length_set, List.length_nil] at this
          omega
        · simp only [setLast, List.length_set]; omega
        · intro y hy
          rcases mem_setLast hy with h2 | rfl
          · exact q4' y h2
          · rw [Str.length_append, hsl]; have := lastS_len q4; omega
      · refine ⟨by simp, fun _ _ => by simp, ?_, ?_, ?_, ?_, Nat.le_succ_of_le q5, ?_⟩
        · simp only [List.length_append, List.length_singleton]; omega
        · simp only [List.length_append, List.length_singleton]; omega
        · intro y hy
          rcases List.mem_append.mp hy with h2 | h2
          · exact q3' y h2
          · rw [List.mem_singleton.mp h2, hnil]; omega
        · intro y hy
          rcases List.mem_append.mp hy with h2 | h2
          · exact q4' y h2
          · rw [List.mem_singleton.mp h2, hsl]; omega
        · intro y hy
          rcases List.mem_append.mp hy with h2 | h2
          · exact q6 y h2
          · rw [List.mem_singleton.mp h2]; decide +kernel
structure PSt where
  st : PS
  t1 : Tok
  t2 : Tok
  na : Addr
  ra : Addr
  nv : List Value
  rv : List Value
  n1 : Nat
  n2 : Nat
set_option maxHeartbeats 2000000 in
theorem ct_parts {w mean mg mb} (x : Str) (t : Tok) (hx : x.length ≤ 40) (hok : ∀ c ∈ tl x, c < 128) : Ct w mean mg mb 12 165 [.str x t] (fun news => True)
    (fun tl r => ∃ a b d n n1 n2 t v1 v2 s, tl = [(a, ({ cls := .type "tuple", data := .seq [Value.str s.lead t, Value.ref b, Value.ref d].toArray n } : Obj)), (d, PySem.W.listOf v2.toArray n2), (b, PySem.W.listOf v1.toArray n1)] ∧ r = .ref a ∧ s = partsP x.cps.toList ∧ StrsAre v1 s.names ∧ StrsAre v2 s.runs ∧ ∃ i, i ≤ 40 ∧ PInv i s) := by
  unfold Ct
  k_fill
  intro dp un gd cn cs a ccd cl outer A₀ base h₀ L m news s Q E B F X N T hk hpre hdp hun hret
  refine wpAny_call ?_
  k_dflt ktr_enter
  repeat' ((fail_if_success (with_reducible show wpAny _ _ (exec (Stmt.For _ _ _ _ _) _) _ _ _)); first | (k_unfold; (try dsimp only)) | ((with_reducible change (_ : Flow → Shared → Prop) _ _); k_unfold; (try dsimp only)) | (k_end; wrow_close) | ((with_reducible show wpAny _ _ (exec _ _) _ _ _); k_fold; walk1) | walk1 | (dsimp only; walk1) | (leave1; walk_say "STEP leave1"; try dsimp only) | fail "no step")
  refine For_F (by k_asm) (by rfl) (by rfl) ?_
  repeat' ((fail_if_success (with_reducible show wpAny _ _ (pyIter _) _ _ _)); first | (k_unfold; (try dsimp only)) | ((with_reducible change (_ : Flow → Shared → Prop) _ _); k_unfold; (try dsimp only)) | (k_end; wrow_close) | ((with_reducible show wpAny _ _ (exec _ _) _ _ _); k_fold; walk1) | walk1 | (dsimp only; walk1) | (leave1; walk_say "STEP leave1"; try dsimp only) | fail "no step")
  (with_reducible rename Fr _ _ _ _ => kF0); (try dsimp only at kF0)
  refine' loopStrL (fun i => SJ (fun (c : PSt) => [(Str.ofString "lead", Value.str c.st.lead c.t1), (Str.ofString "names", Value.ref c.na), (Str.ofString "runs", Value.ref c.ra), (Str.ofString "last", Value.str c.st.last c.t2)]) [Str.ofString "sign"] _
      (fun c nx => nx = (c.ra, PySem.W.listOf c.rv.toArray c.n2) :: (c.na, PySem.W.listOf c.nv.toArray c.n1) :: news ∧ (@Ne Nat c.na c.ra) ∧ (∀ p ∈ news, p.1 ≠ c.na) ∧ (∀ p ∈ news, p.1 ≠ c.ra) ∧ StrsAre c.nv c.st.names ∧ StrsAre c.rv c.st.runs ∧ c.st = partsP ((tl x).take i) ∧ PInv i c.st)) rfl (by k_asm) (by k_asm) ?gi ?gt ?gd
  case gi =>
    refine' SJ.init ⟨initP, _, _, _, _, [Value.str (Str.ofString "") _], [], _, _⟩ ⟨rfl, ?ga, ?gb, ?gc, .cons _ _ .nil, .nil, rfl, initInv⟩ ?gh
    case gh => intro p hp; rcases List.mem_cons.mp hp with rfl | hp; exact rfl; rcases List.mem_cons.mp hp with rfl | hp; exact rfl; rcases List.mem_cons.mp hp with rfl | hp; exact rfl; rw [List.mem_singleton.mp hp]; exact rfl
    case ga => (try dsimp only); omega
    case gb => exact fun p hp => Nat.ne_of_lt (ltAll (by assumption) hp)
    case gc =>
      intro p hp
      rename (_ < _ ∧ AllLt _ news) => hA
      exact Nat.ne_of_lt (ktn_ltOf hA.2 p hp)
  case gt =>
    rintro i c u m₁ nx h tk I oI hi ⟨⟨⟨lead, names, runs, last⟩, t1, t2, na, ra, nv, rv, n1, n2⟩, ⟨rfl, hne, ha1, ha2, hnv, hrv, hst, ⟨hn, hr, q1, q2, q3, q4, q5, q6⟩⟩, h1, h2⟩ ha hI F1 N1
    rw [← kst_map h1 h2] at F1
    dsimp only at hne ha1 ha2 hnv hrv hn hr q1 q2 q3 q4 q5 q6 F1 N1 ha
    have hi40 : i < 40 := by
      have : i < x.cps.size := (Array.getElem?_eq_some_iff.mp hi).1
      have hx2 : x.cps.size ≤ 40 := hx
      omega
    have ho1 : ∀ p ∈ news ++ [(I, oI)], p.1 ≠ na := by
      intro p hp
      rcases List.mem_append.mp hp with hp | hp
      · exact ha1 p hp
      · rw [List.mem_singleton.mp hp]; exact (ha (na, _) (.tail _ (.head _))).symm
    have ho2 : ∀ p ∈ news ++ [(I, oI)], p.1 ≠ ra := by
      intro p hp
      rcases List.mem_append.mp hp with hp | hp
      · exact ha2 p hp
      · rw [List.mem_singleton.mp hp]; exact (ha (ra, _) (.head _)).symm
    have hob := okNil
    dsimp only [List.cons_append] at N1
    have hc128 : c < 128 := hok c (by unfold tl; rw [Array.mem_toList_iff]; exact Array.mem_of_getElem? hi)
    have hinv : PInv i ⟨lead, names, runs, last⟩ := ⟨hn, hr, q1, q2, q3, q4, q5, q6⟩
    (repeat' (first | (k_unfold; (try dsimp only)) | ((with_reducible change (_ : Flow → Shared → Prop) _ _); k_unfold; (try dsimp only)) | (k_end; wrow_close) | ((with_reducible show wpAny _ _ (exec _ _) _ _ _); k_fold; walk1) | walk1 | (dsimp only; walk1) | (leave1; walk_say "STEP leave1"; try dsimp only) | fail "no step"))
    · have hs : stepP c ⟨lead, names, runs, last⟩ = ⟨lead, setLast names (lastS names ++ S [c]), runs, S [c]⟩ := by
        unfold stepP
        rw [if_pos (by have h5 : (S [c] != Str.ofString "/") = true := (by assumption); simpa using h5)]
      dsimp only [LPost]
      refine' LEnd.intro _ (by k_asm) (by k_asm) ?gn ?go ?ga ⟨⟨⟨lead, setLast names (lastS names ++ S [c]), runs, S [c]⟩, _, _, na, ra, _, rv, n1, n2⟩, ⟨rfl, hne, ha1, ha2, by assumption, hrv, (by rw [parts_succ hi, ← hst, hs]), hs ▸ invStep hc128 hinv⟩, ?gk, ?gr⟩
      (case gk => (intro p hp; rcases List.mem_cons.mp hp with rfl | hp; exact rfl; rcases List.mem_cons.mp hp with rfl | hp; exact rfl; rcases List.mem_cons.mp hp with rfl | hp; exact rfl; rw [List.mem_singleton.mp hp]; exact rfl)); (case gr => (intro z h2 h3; (have h4 := h3); (simp only [List.contains_cons, List.contains_nil, Bool.or_false, Bool.or_eq_false_iff, beq_eq_false_iff_ne, ne_eq] at h4); (simp only [List.forall_mem_cons, List.not_mem_nil, false_implies, implies_true, and_true, ne_eq] at h2); (try simp only [kstB, h2, h3, h4, if_false, Bool.false_eq_true]); try rfl)); (case gn => intro p hp; (try simp only [List.append_assoc, List.nil_append, List.cons_append, List.mem_cons, List.mem_append, List.not_mem_nil, or_false, false_or] at hp ⊢); first | exact hp | (simp only [hp, true_or, or_true]; done) | (rcases hp with hp | hp <;> simp only [hp, true_or, or_true] <;> done) | grind); (case go => intro p hp; (try simp only [List.append_assoc, List.nil_append, List.cons_append, List.mem_cons, List.mem_append, List.not_mem_nil, or_false, false_or] at hp ⊢); first | exact hp | (simp only [hp, true_or, or_true]; done) | (rcases hp with hp | hp <;> simp only [hp, true_or, or_true] <;> done) | grind); (case ga => (intro p hp; rcases List.mem_cons.mp hp with rfl | hp; exact ha (ra, PySem.W.listOf rv.toArray n2) (.head _); rcases List.mem_cons.mp hp with rfl | hp; exact ha (na, PySem.W.listOf nv.toArray n1) (.tail _ (.head _)); exact ha p (.tail _ (.tail _ hp))))
    · have hs : stepP c ⟨lead, names, runs, last⟩ = ⟨lead ++ Str.ofString "/", names, runs, S [c]⟩ := by
        unfold stepP
        rw [if_neg (by have h5 : (S [c] != Str.ofString "/") = false := (by assumption); simpa using h5), if_pos (Iff.mp (by assumption) (by assumption))]
      dsimp only [LPost]
      refine' LEnd.intro _ (by k_asm) (by k_asm) ?gn ?go ?ga ⟨⟨⟨lead ++ Str.ofString "/", names, runs, S [c]⟩, _, _, na, ra, nv, rv, n1, n2⟩, ⟨rfl, hne, ha1, ha2, hnv, hrv, (by rw [parts_succ hi, ← hst, hs]), hs ▸ invStep hc128 hinv⟩, ?gk, ?gr⟩
      (case gk => (intro p hp; rcases List.mem_cons.mp hp with rfl | hp; exact rfl; rcases List.mem_cons.mp hp with rfl | hp; exact rfl; rcases List.mem_cons.mp hp with rfl | hp; exact rfl; rw [List.mem_singleton.mp hp]; exact rfl)); (case gr => (intro z h2 h3; (have h4 := h3); (simp only [List.contains_cons, List.contains_nil, Bool.or_false, Bool.or_eq_false_iff, beq_eq_false_iff_ne, ne_eq] at h4); (simp only [List.forall_mem_cons, List.not_mem_nil, false_implies, implies_true, and_true, ne_eq] at h2); (try simp only [kstB, h2, h3, h4, if_false, Bool.false_eq_true]); try rfl)); (case gn => intro p hp; (try simp only [List.append_assoc, List.nil_append, List.cons_append, List.mem_cons, List.mem_append, List.not_mem_nil, or_false, false_or] at hp ⊢); first | exact hp | (simp only [hp, true_or, or_true]; done) | (rcases hp with hp | hp <;> simp only [hp, true_or, or_true] <;> done) | grind); (case go => intro p hp; (try simp only [List.append_assoc, List.nil_append, List.cons_append, List.mem_cons, List.mem_append, List.not_mem_nil, or_false, false_or] at hp ⊢); first | exact hp | (simp only [hp, true_or, or_true]; done) | (rcases hp with hp | hp <;> simp only [hp, true_or, or_true] <;> done) | grind); (case ga => (intro p hp; rcases List.mem_cons.mp hp with rfl | hp; exact ha (ra, PySem.W.listOf rv.toArray n2) (.head _); rcases List.mem_cons.mp hp with rfl | hp; exact ha (na, PySem.W.listOf nv.toArray n1) (.tail _ (.head _)); exact ha p (.tail _ (.tail _ hp))))
    · have hrne : runs ≠ [] := hr (by have h5 : (last == Str.ofString "/") = true := (by assumption); simpa using h5) (fun e => by
        have h6 := Iff.mpr (by assumption) e
        simp_all only [Bool.false_eq_true])
      have hs : stepP c ⟨lead, names, runs, last⟩ = ⟨lead, names, setLast runs (lastS runs ++ Str.ofString "/"), S [c]⟩ := by
        unfold stepP
        rw [if_neg (by have h5 : (S [c] != Str.ofString "/") = false := (by assumption); simpa using h5), if_neg (fun e => by
          have h6 := Iff.mpr (by assumption) e
          simp_all only [Bool.false_eq_true]), if_pos (by have h5 : (last == Str.ofString "/") = true := (by assumption); simpa using h5)]
      dsimp only
      (repeat' (first | (k_unfold; (try dsimp only)) | ((with_reducible change (_ : Flow → Shared → Prop) _ _); k_unfold; (try dsimp only)) | (k_end; wrow_close) | ((with_reducible show wpAny _ _ (exec _ _) _ _ _); k_fold; walk1) | walk1 | (dsimp only; walk1) | (leave1; walk_say "STEP leave1"; try dsimp only) | fail "no step"))
      dsimp only [LPost]
      refine' LEnd.intro _ (by k_asm) (by k_asm) ?gn ?go ?ga ⟨⟨⟨lead, names, setLast runs (lastS runs ++ Str.ofString "/"), S [c]⟩, _, _, na, ra, nv, _, n1, n2⟩, ⟨rfl, hne, ha1, ha2, hnv, by assumption, (by rw [parts_succ hi, ← hst, hs]), hs ▸ invStep hc128 hinv⟩, ?gk, ?gr⟩
      (case gk => (intro p hp; rcases List.mem_cons.mp hp with rfl | hp; exact rfl; rcases List.mem_cons.mp hp with rfl | hp; exact rfl; rcases List.mem_cons.mp hp with rfl | hp; exact rfl; rw [List.mem_singleton.mp hp]; exact rfl)); (case gr => (intro z h2 h3; (have h4 := h3); (simp only [List.contains_cons, List.contains_nil, Bool.or_false, Bool.or_eq_false_iff, beq_eq_false_iff_ne, ne_eq] at h4); (simp only [List.forall_mem_cons, List.not_mem_nil, false_implies, implies_true, and_true, ne_eq] at h2); (try simp only [kstB, h2, h3, h4, if_false, Bool.false_eq_true]); try rfl)); (case gn => intro p hp; (try simp only [List.append_assoc, List.nil_append, List.cons_append, List.mem_cons, List.mem_append, List.not_mem_nil, or_false, false_or] at hp ⊢); first | exact hp | (simp only [hp, true_or, or_true]; done) | (rcases hp with hp | hp <;> simp only [hp, true_or, or_true] <;> done) | grind); (case go => intro p hp; (try simp only [List.append_assoc, List.nil_append, List.cons_append, List.mem_cons, List.mem_append, List.not_mem_nil, or_false, false_or] at hp ⊢); first | exact hp | (simp only [hp, true_or, or_true]; done) | (rcases hp with hp | hp <;> simp only [hp, true_or, or_true] <;> done) | grind); (case ga => (intro p hp; rcases List.mem_cons.mp hp with rfl | hp; exact ha (ra, PySem.W.listOf rv.toArray n2) (.head _); rcases List.mem_cons.mp hp with rfl | hp; exact ha (na, PySem.W.listOf nv.toArray n1) (.tail _ (.head _)); exact ha p (.tail _ (.tail _ hp))))
    · have hs : stepP c ⟨lead, names, runs, last⟩ = ⟨lead, names ++ [Str.ofString ""], runs ++ [Str.ofString "/"], S [c]⟩ := by
        unfold stepP
        rw [if_neg (by have h5 : (S [c] != Str.ofString "/") = false := (by assumption); simpa using h5), if_neg (fun e => by
          have h6 := Iff.mpr (by assumption) e
          simp_all only [Bool.false_eq_true]), if_neg (by have h5 : (last == Str.ofString "/") = false := (by assumption); simpa using h5)]
      dsimp only [LPost]
      refine' LEnd.intro _ (by k_asm) (by k_asm) ?gn ?go ?ga ⟨⟨⟨lead, names ++ [Str.ofString ""], runs ++ [Str.ofString "/"], S [c]⟩, _, _, na, ra, _, _, n1 + 1, n2 + 1⟩, ⟨rfl, hne, ha1, ha2, by assumption, by assumption, (by rw [parts_succ hi, ← hst, hs]), hs ▸ invStep hc128 hinv⟩, ?gk, ?gr⟩
      (case gk => (intro p hp; rcases List.mem_cons.mp hp with rfl | hp; exact rfl; rcases List.mem_cons.mp hp with rfl | hp; exact rfl; rcases List.mem_cons.mp hp with rfl | hp; exact rfl; rw [List.mem_singleton.mp hp]; exact rfl)); (case gr => (intro z h2 h3; (have h4 := h3); (simp only [List.contains_cons, List.contains_nil, Bool.or_false, Bool.or_eq_false_iff, beq_eq_false_iff_ne, ne_eq] at h4); (simp only [List.forall_mem_cons, List.not_mem_nil, false_implies, implies_true, and_true, ne_eq] at h2); (try simp only [kstB, h2, h3, h4, if_false, Bool.false_eq_true]); try rfl)); (case gn => intro p hp; (try simp only [List.append_assoc, List.nil_append, List.cons_append, List.mem_cons, List.mem_append, List.not_mem_nil, or_false, false_or] at hp ⊢); first | exact hp | (simp only [hp, true_or, or_true]; done) | (rcases hp with hp | hp <;> simp only [hp, true_or, or_true] <;> done) | grind); (case go => intro p hp; (try simp only [List.append_assoc, List.nil_append, List.cons_append, List.mem_cons, List.mem_append, List.not_mem_nil, or_false, false_or] at hp ⊢); first | exact hp | (simp only [hp, true_or, or_true]; done) | (rcases hp with hp | hp <;> simp only [hp, true_or, or_true] <;> done) | grind); (case ga => (intro p hp; rcases List.mem_cons.mp hp with rfl | hp; exact ha (ra, PySem.W.listOf rv.toArray n2) (.head _); rcases List.mem_cons.mp hp with rfl | hp; exact ha (na, PySem.W.listOf nv.toArray n1) (.tail _ (.head _)); exact ha p (.tail _ (.tail _ hp))))
  case gd =>
    rintro m₁ nx h tk ⟨⟨⟨lead, names, runs, last⟩, t1, t2, na, ra, nv, rv, n1, n2⟩, ⟨rfl, hne, ha1, ha2, hnv, hrv, hst, ⟨hn, hr, q1, q2, q3, q4, q5, q6⟩⟩, h1, h2⟩ F1 N1
    rw [← kst_map h1 h2] at F1
    dsimp only at hne ha1 ha2 hnv hrv hn hr q1 q2 q3 q4 q5 q6 F1 N1
    (repeat' (first | (k_unfold; (try dsimp only)) | ((with_reducible change (_ : Flow → Shared → Prop) _ _); k_unfold; (try dsimp only)) | (k_end; wrow_close) | ((with_reducible show wpAny _ _ (exec _ _) _ _ _); k_fold; walk1) | walk1 | (dsimp only; walk1) | (leave1; walk_say "STEP leave1"; try dsimp only) | fail "no step"))
    (repeat' (first | (k_unfold; (try dsimp only)) | ((with_reducible change (_ : Flow → Shared → Prop) _ _); k_unfold; (try dsimp only)) | (k_end; wrow_close) | ((with_reducible show wpAny _ _ (exec _ _) _ _ _); k_fold; walk1) | walk1 | (dsimp only; walk1) | (leave1; walk_say "STEP leave1"; try dsimp only) | fail "no step"))
    have e40 : (tl x).take x.cps.size = tl x := List.take_of_length_le (by unfold tl; simp)
    rw [e40] at hst
    refine hret _ _ _ _ (by k_asm) (led3 (by k_asm) (by intro p hp; (try simp only [List.append_assoc, List.nil_append, List.cons_append, List.mem_cons, List.mem_append, List.not_mem_nil, or_false, false_or] at hp ⊢); first | exact hp | (simp only [hp, true_or, or_true]; done) | (rcases hp with hp | hp <;> simp only [hp, true_or, or_true] <;> done) | grind)) ⟨_, _, _, _, _, _, _, _, _, ⟨lead, names, runs, last⟩, rfl, rfl, hst, hnv, hrv, x.cps.size, hx, ⟨hn, hr, q1, q2, q3, q4, q5, q6⟩⟩
end Mine

theorem Mine.quietJ1 : True := by
  w_top off
  trivial
namespace Mine
set_option maxHeartbeats 400000 in
theorem bind1r (K : Frag) (S : Setting) (fd : FuncData) (pa pp : PySem.Arg) (hp : fd.params = ⟨[], [pa], some pp, [], [], none, []⟩) (hd : fd.defaults = .none) (v : Value) (vs : List Value) (hv : vs.length ≤ 100) :
    peek1 K S (bindArgs fd ⟨v :: vs, []⟩) = some (({ cls := .type "tuple", data := .seq vs.toArray } : Obj), fun D => some [(pa.arg, v), (pp.arg, Value.ref D)]) := by
  have h1 : ¬ (vs.toArray.size > sizeLine) := by rw [List.size_toArray]; have := (by decide : 100 ≤ sizeLine); omega
  unfold bindArgs
  rw [hp, hd]
  dsimp only [List.map, List.append, Option.isNone]
  simp only [Bool.and_false, List.zip, List.zipWith, List.nil_append, List.length_cons, List.length_nil, List.lookup, beq_self_eq_true, Bool.false_eq_true, if_false, List.filterMap, Option.map]
  simp [List.take, List.filter, List.isEmpty, seqItems?, List.drop]
  unfold newTuple newObj
  dsimp only
  rw [if_neg h1]
  rfl
def joinStep (path b : Str) : Str :=
  if Txt.startswith b (Str.ofString "/") = true then b else if path.length = 0 then b else if Txt.endswith path (Str.ofString "/") = true then path ++ b else path ++ (Str.ofString "/" ++ b)
def joinP (x : Str) (xs : List Str) : Str := xs.foldl joinStep x
theorem joinP_succ (x : Str) {xs : List Str} {i : Nat} {c : Str} (h : xs[i]? = some c) : joinP x (xs.take (i + 1)) = joinStep (joinP x (xs.take i)) c := by
  unfold joinP
  rw [List.take_add_one, h]
  simp
theorem joinStep_len {p b : Str} : (joinStep p b).length ≤ p.length + b.length + 1 := by
  have h1 : (Str.ofString "/").length = 1 := by decide
  unfold joinStep
  split
  · omega
  · split
    · omega
    · split <;> simp only [Str.length_append, h1] <;> omega
theorem joinP_len (x : Str) (b : Nat) : ∀ xs : List Str, (∀ y ∈ xs, y.length ≤ b) → (joinP x xs).length ≤ x.length + xs.length * (b + 1) := by
  intro xs
  induction xs generalizing x with
  | nil => intro _; simp [joinP]
  | cons y ys ih =>
    intro h
    have h1 := ih (joinStep x y) fun z hz => h z (.tail _ hz)
    have h2 : (joinStep x y).length ≤ x.length + y.length + 1 := joinStep_len
    have h3 := h y (.head _)
    have e : joinP x (y :: ys) = joinP (joinStep x y) ys := rfl
    rw [e, List.length_cons, Nat.add_mul]
    omega
theorem ct_join {w mean mg mb} (x : Str) (t : Tok) (vs : List Value) (xs : List Str) (hs1 : StrsAre vs xs) (hl : xs.length ≤ 100) (hx : x.length ≤ 1000) (hb : ∀ y ∈ xs, y.length ≤ 100) :
  Ct w mean mg mb 12 136 (.str x t :: vs) (fun _ => True) (fun tl r => tl = [] ∧ ∃ t, r = .str (joinP x xs) t) := by
  unfold Ct
  k_fill
  intro dp un gd cn cs a ccd cl outer A₀ base h₀ L m news s Q E B F X N T hk hpre hdp hun hret
  have hvl : vs.length ≤ 100 := by rw [hs1.length]; exact hl
  refine wpAny_call ?_; k_dflt (refine' kp_rest (vs := vs) (g₁ := fun D => some [(Str.ofString "a", Value.str x t), (Str.ofString "p", Value.ref D)]) (binds := fun D => [(Str.ofString "a", Value.str x t), (Str.ofString "p", Value.ref D)]) ?k1 ?k2 ?k3 ?k4 ?k5 ?kA ?kF ?kK ?k6 ?k7 ?k8 ?kV ?kP ?kG ?kB ?_ ?c2 ?c3 ?c4 ?c5; (case kA => exact rfl); (case kF => exact rfl); (case kK => first | exact rfl | assumption); (case k1 => k_asm); (case k2 => k_asm); (case k3 => k_asm); (case k4 => k_asm); (case k5 => k_asm); (case k6 => k_is); (case k7 => k_is); (case k8 => ktr_room); (case kV => exact rfl); (case kP => exact bind1r _ _ _ ⟨Str.ofString "a", none, _⟩ ⟨Str.ofString "p", none, _⟩ (by exact rfl) (by exact rfl) _ _ hvl); (case kG => exact fun _ => rfl); (case kB => exact fun _ => locs rfl); (case c5 => decide); (case c2 => exact rfl); (case c3 => exact rfl); (case c4 => exact rfl); k_whole; intro D' g' L' h' l1 FG' F' N' B' X' T'; (try k_lt l1); (try dsimp only); (try k_fold))
  repeat' ((fail_if_success (with_reducible show wpAny _ _ (exec (Stmt.For _ _ _ _ _) _) _ _ _)); first | (k_unfold; (try dsimp only)) | ((with_reducible change (_ : Flow → Shared → Prop) _ _); k_unfold; (try dsimp only)) | (k_end; wrow_close) | ((with_reducible show wpAny _ _ (exec _ _) _ _ _); k_fold; walk1) | walk1 | (dsimp only; walk1) | (leave1; walk_say "STEP leave1"; try dsimp only) | fail "no step")
  refine For_F (by k_asm) (by rfl) (by rfl) ?_
  repeat' ((fail_if_success (with_reducible show wpAny _ _ (pyIter _) _ _ _)); first | (k_unfold; (try dsimp only)) | ((with_reducible change (_ : Flow → Shared → Prop) _ _); k_unfold; (try dsimp only)) | (k_end; wrow_close) | ((with_reducible show wpAny _ _ (exec _ _) _ _ _); k_fold; walk1) | walk1 | (dsimp only; walk1) | (leave1; walk_say "STEP leave1"; try dsimp only) | fail "no step")
  (with_reducible rename Fr _ _ _ _ => kF0); (try dsimp only at kF0)
  refine' loopTuple (fun i => SJ (fun (c : Str × Tok) => [(Str.ofString "path", Value.str c.1 c.2)]) [Str.ofString "b", Str.ofString "path"] _
      (fun c nx => nx = (D', ({ cls := .type "tuple", data := .seq vs.toArray } : Obj)) :: news ∧ c.1 = joinP x (xs.take i))) rfl ⟨_, News.get (by k_asm) (.head _), rfl, _, rfl⟩ ?gL (by k_asm) (by k_asm) ?gi ?gt ?gd
  case gL => exact (by (with_reducible rename News g' _ _ _ => N9); exact (N9 _ (.head _)).2.1)
  case gi =>
    refine' SJ.init (_, _) ⟨rfl, rfl⟩ ?gh
    case gh => intro p hp; rw [List.mem_singleton.mp hp]; exact rfl
  case gt =>
    rintro i v m₁ nx h tk own oI hi ⟨⟨y, ty⟩, ⟨rfl, hy⟩, h1, h2⟩ ha hown F1 N1
    rw [← kst_map h1 h2] at F1
    dsimp only at hy F1
    obtain ⟨z, tz, rfl, hz⟩ := hs1.item i v hi
    have hzl : z.length ≤ 100 := hb z (List.mem_of_getElem? hz)
    have hil : i < xs.length := (List.getElem?_eq_some_iff.mp hz).1
    have hyl : y.length ≤ 15000 := by
      have q1 := joinP_len x 100 (xs.take i) fun c hc => hb c (List.mem_of_mem_take hc)
      have q2 : (xs.take i).length ≤ 100 := by rw [List.length_take]; omega
      have q3 : (xs.take i).length * (100 + 1) ≤ 100 * 101 := Nat.mul_le_mul q2 (Nat.le_refl _)
      rw [hy]; omega
    dsimp only [List.cons_append] at N1
    (repeat' (first | (k_unfold; (try dsimp only)) | ((with_reducible change (_ : Flow → Shared → Prop) _ _); k_unfold; (try dsimp only)) | (k_end; wrow_close) | ((with_reducible show wpAny _ _ (exec _ _) _ _ _); k_fold; walk1) | walk1 | (dsimp only; walk1) | (leave1; walk_say "STEP leave1"; try dsimp only) | fail "no step"))
    all_goals
      dsimp only [LPost]
      refine LEnd.intro _ (by k_asm) (by k_asm) (by intro p hp; (try simp only [List.append_assoc, List.nil_append, List.cons_append, List.mem_cons, List.mem_append, List.not_mem_nil, or_false, false_or] at hp ⊢); first | exact hp | (simp only [hp, true_or, or_true]; done) | (rcases hp with hp | hp <;> simp only [hp, true_or, or_true] <;> done) | grind) (by intro p hp; (try simp only [List.append_assoc, List.nil_append, List.cons_append, List.mem_cons, List.mem_append, List.not_mem_nil, or_false, false_or] at hp ⊢); first | exact hp | (simp only [hp, true_or, or_true]; done) | (rcases hp with hp | hp <;> simp only [hp, true_or, or_true] <;> done) | grind) ha ⟨(_, _), ⟨rfl, ?_⟩, (by intro p hp; rw [List.mem_singleton.mp hp]; exact rfl), (by (intro z h2 h3; (have h4 := h3); (simp only [List.contains_cons, List.contains_nil, Bool.or_false, Bool.or_eq_false_iff, beq_eq_false_iff_ne, ne_eq] at h4); (simp only [List.forall_mem_cons, List.not_mem_nil, false_implies, implies_true, and_true, ne_eq] at h2); (try simp only [kstB, h2, h3, h4, if_false, Bool.false_eq_true]); try rfl))⟩
      dsimp only
      rw [joinP_succ x hz, ← hy]
      unfold joinStep
      first
        | (rw [if_pos (by assumption)]; done)
        | (rw [if_neg (Bool.eq_false_iff.mp (by assumption)), if_pos (by omega)]; done)
        | (rw [if_neg (Bool.eq_false_iff.mp (by assumption)), if_neg (by omega), if_pos (by assumption)]; done)
        | (rw [if_neg (Bool.eq_false_iff.mp (by assumption)), if_neg (by omega), if_neg (Bool.eq_false_iff.mp (by assumption))]; done)
  case gd =>
    rintro m₁ nx h tk ⟨⟨y, ty⟩, ⟨rfl, hy⟩, h1, h2⟩ F1 N1
    rw [← kst_map h1 h2] at F1
    dsimp only at hy F1
    (repeat' (first | (k_unfold; (try dsimp only)) | ((with_reducible change (_ : Flow → Shared → Prop) _ _); k_unfold; (try dsimp only)) | (k_end; wrow_close) | ((with_reducible show wpAny _ _ (exec _ _) _ _ _); k_fold; walk1) | walk1 | (dsimp only; walk1) | (leave1; walk_say "STEP leave1"; try dsimp only) | fail "no step"))
    refine hret _ [] _ _ (by k_asm) (cb_drop (by k_asm) (by intro p hp; (try simp only [List.append_assoc, List.nil_append, List.cons_append, List.mem_cons, List.mem_append, List.not_mem_nil, or_false, false_or] at hp ⊢); first | exact hp | (simp only [hp, true_or, or_true]; done) | (rcases hp with hp | hp <;> simp only [hp, true_or, or_true] <;> done) | grind)) ⟨rfl, ty, ?_⟩
    rw [hy, hs1.length, List.take_of_length_le (Nat.le_refl _)]
end Mine

theorem Mine.quietB1 : True := by
  w_top off
  trivial
namespace Mine
set_option maxHeartbeats 300000 in
theorem ct_build {w mean mg mb} (x y : Str) (t t2 : Tok) (l : Addr) (n : Nat) (hx : x.length ≤ 2000) (hy : y.length ≤ 2000) : Ct w mean mg mb 3 35 [.ref l] (fun news => (l, ({ cls := .type "tuple", data := .seq [Value.str x t, Value.str y t2].toArray n } : Obj)) ∈ news) (fun tl r => tl = [] ∧ ∃ t, r = .str (x ++ Str.ofString "." ++ y) t) := by
  unfold Ct
  k_fill
  intro dp un gd cn cs a ccd cl outer A₀ base h₀ L m news s Q E B F X N T hk hpre hdp hun hret
  refine wpAny_call ?_
  k_dflt ktr_enter
  (repeat' (first | (k_unfold; (try dsimp only)) | ((with_reducible change (_ : Flow → Shared → Prop) _ _); k_unfold; (try dsimp only)) | (k_end; wrow_close) | ((with_reducible show wpAny _ _ (exec _ _) _ _ _); k_fold; walk1) | walk1 | (dsimp only; walk1) | (leave1; walk_say "STEP leave1"; try dsimp only) | fail "no step"))
  exact hret _ [] _ _ (by k_asm) (cb_drop (by k_asm) (by intro p hp; (try simp only [List.append_assoc, List.nil_append, List.cons_append, List.mem_cons, List.mem_append, List.not_mem_nil, or_false, false_or] at hp ⊢); first | exact hp | (simp only [hp, true_or, or_true]; done) | (rcases hp with hp | hp <;> simp only [hp, true_or, or_true] <;> done) | grind)) ⟨rfl, _, rfl⟩
set_option maxHeartbeats 300000 in
theorem ct_buildL {w mean mg mb} (x y : Str) (t t2 : Tok) (l : Addr) (n : Nat) (hx : x.length ≤ 2000) (hy : y.length ≤ 2000) : Ct w mean mg mb 3 35 [.ref l] (fun news => (l, PySem.W.listOf [Value.str x t, Value.str y t2].toArray n) ∈ news) (fun tl r => tl = [] ∧ ∃ t, r = .str (x ++ Str.ofString "." ++ y) t) := by
  unfold Ct
  k_fill
  intro dp un gd cn cs a ccd cl outer A₀ base h₀ L m news s Q E B F X N T hk hpre hdp hun hret
  refine wpAny_call ?_
  k_dflt ktr_enter
  (repeat' (first | (k_unfold; (try dsimp only)) | ((with_reducible change (_ : Flow → Shared → Prop) _ _); k_unfold; (try dsimp only)) | (k_end; wrow_close) | ((with_reducible show wpAny _ _ (exec _ _) _ _ _); k_fold; walk1) | walk1 | (dsimp only; walk1) | (leave1; walk_say "STEP leave1"; try dsimp only) | fail "no step"))
  exact hret _ [] _ _ (by k_asm) (cb_drop (by k_asm) (by intro p hp; (try simp only [List.append_assoc, List.nil_append, List.cons_append, List.mem_cons, List.mem_append, List.not_mem_nil, or_false, false_or] at hp ⊢); first | exact hp | (simp only [hp, true_or, or_true]; done) | (rcases hp with hp | hp <;> simp only [hp, true_or, or_true] <;> done) | grind)) ⟨rfl, _, rfl⟩
set_option maxHeartbeats 300000 in
theorem ct_named2 {w mean mg mb} (v : List Value) (x y : Str) (hv : StrsAre v [x, y]) (l : Addr) (n : Nat) (hx : x.length ≤ 2000) (hy : y.length ≤ 2000) : Ct w mean mg mb 9 198 [.ref l] (fun news => (l, PySem.W.listOf v.toArray n) ∈ news) (fun tl r => ∃ a n t t2, tl = [(a, PySem.W.listOf [Value.str (x ++ Str.ofString "." ++ y) t, Value.str (Str.ofString "") t2].toArray n)] ∧ r = .ref a) := by
  unfold Ct
  k_fill
  intro dp un gd cn cs a ccd cl outer A₀ base h₀ L m news s Q E B F X N T hk hpre hdp hun hret
  obtain ⟨t, r1, rfl, h1⟩ := hv.cons_inv
  obtain ⟨t2, r2, rfl, h2⟩ := h1.cons_inv
  obtain rfl := h2.nil_inv
  refine wpAny_call ?_
  k_dflt ktr_enter
  repeat' ((fail_if_success (with_reducible show wpAny _ _ (call (Value.ref _) _) _ _ _)); first | (k_unfold; (try dsimp only)) | ((with_reducible change (_ : Flow → Shared → Prop) _ _); k_unfold; (try dsimp only)) | (k_end; wrow_close) | ((with_reducible show wpAny _ _ (exec _ _) _ _ _); k_fold; walk1) | walk1 | (dsimp only; walk1) | (leave1; walk_say "STEP leave1"; try dsimp only) | fail "no step")
  refine' Ct.use (ct_buildL x y t t2 l n hx hy) ?k1 ?k2 ?k3 ?k4 ?k5 ?kK ?kp ?kd ?ku ?_
  ((case k1 => k_asm); (case k2 => k_asm); (case k3 => k_asm); (case k4 => k_asm); (case k5 => k_asm); (case kK => first | exact rfl | assumption); (case kd => ktr_room); (case ku => ktr_units))
  case kp => k_mem
  rintro _ _ h9 tk9 F9 N9 ⟨rfl, t9, rfl⟩
  (repeat' (first | (k_unfold; (try dsimp only)) | ((with_reducible change (_ : Flow → Shared → Prop) _ _); k_unfold; (try dsimp only)) | (k_end; wrow_close) | ((with_reducible show wpAny _ _ (exec _ _) _ _ _); k_fold; walk1) | walk1 | (dsimp only; walk1) | (leave1; walk_say "STEP leave1"; try dsimp only) | fail "no step"))
  exact hret _ _ _ _ (by k_asm) (led1 (by k_asm) (by intro p hp; (try simp only [List.append_assoc, List.nil_append, List.cons_append, List.mem_cons, List.mem_append, List.not_mem_nil, or_false, false_or] at hp ⊢); first | exact hp | (simp only [hp, true_or, or_true]; done) | (rcases hp with hp | hp <;> simp only [hp, true_or, or_true] <;> done) | grind)) ⟨_, _, _, _, rfl, rfl⟩
end Mine

local macro_rules | `(tactic| walk_at "call ref") => `(tactic| (k_here; k_dflt (refine' Mine.Ct.use (Mine.ct_build _ _ _ _ _ _ ?kx ?ky) ?k1 ?k2 ?k3 ?k4 ?k5 ?kK ?kp ?kd ?ku ?_; ((case k1 => k_asm); (case k2 => k_asm); (case k3 => k_asm); (case k4 => k_asm); (case k5 => k_asm); (case kK => first | exact rfl | assumption); (case kd => ktr_room); (case ku => ktr_units)); (case kp => k_mem); (case kx => first | assumption | omega); (case ky => first | assumption | omega)); (intro r9 tl9 h9 tk9 F9 N9 P9; obtain ⟨e9, t9, f9⟩ := P9; subst e9; subst f9; (try dsimp only [List.nil_append, List.cons_append] at N9))))
theorem Mine.quietL3 : True := by
  w_top off
  trivial
namespace Mine
section
open LCg
variable {prog : Program} {w : World} {A : Around} {E : Value → Shared → Prop} {s : Shared} {h₀ : Heap} {L : Addr} {m : Str → Option Value} {env : Env}
def TupAt (ax : Addr) (its : Array Value) (news : Led) : Prop := ∃ o, (ax, o) ∈ news ∧ o.cls = .type "tuple" ∧ ∃ n, o.data = .seq its n
theorem TupAt.tup {h : Heap} {ax : Addr} {its : Array Value} {news : Led} (x : TupAt ax its news) (N : News h₀ L h news) : h.IsTuple ax its := by
  obtain ⟨o, hm, r⟩ := x
  exact ⟨o, (N _ hm).1, r⟩
def TSrc (prog : Program) (w : World) (A : Around) (h₀ : Heap) (L : Addr) (m : Str → Option Value) (env : Env) (elt : Expr) (x : Str) (scope : Scope) (cl : List (Str × Addr)) (Fin : Shared → List Value → Led → Prop) (xv : Value) (s₁ : Shared) : Prop :=
  ∃ ax its news, xv = .ref ax ∧ A.handled = none ∧ Fr h₀ L s₁.heap m ∧ News h₀ L s₁.heap news ∧ TupAt ax its news ∧ its.size ≤ sizeLine ∧
    ∀ s₂ : Shared, (∃ h, s₂ = { s₁ with heap := h }) → CompRest prog w A h₀ L m env elt x scope cl s₂ (TupAt ax its) (fun i v => its[i]? = some v) (Fin s₂) its.size 0 [] news
theorem tup_st {ax I : Addr} {its : Array Value} : ∀ i (h h' : Heap) (o : Obj) (nw : Led), (h.IsTupleIter I ax i ∧ h.IsTuple ax its) → h.get? I = some o → h'.get? I = some o → (∀ b o, h₀.get? b = some o → h'.get? b = some o) → News h₀ L h' nw → TupAt ax its nw → (h'.IsTupleIter I ax i ∧ h'.IsTuple ax its) :=
  fun i h h' o nw st e e' k N S => ⟨by obtain ⟨o', q, r⟩ := st.1; rw [e] at q; cases q; exact ⟨o, e', r⟩, S.tup N⟩
theorem Assign_ListComp_Tup {elt iter : Expr} {x y : Str} {px py : Pos} {scope : Scope} {cl : List (Str × Addr)} {pos spos : Pos} {Q : Flow → Shared → Prop} (F₀ : Fr h₀ L s.heap m) (hLe : env.locals = L)
    (hsw : swapsWith (.ListComp elt [⟨.Name x px, iter, [], 0⟩] scope pos) (some (.Name y py)) spos.line env = pure true)
    (hclos : closureFor scope env = pure cl) (hcell : ∀ z ∈ scope.names, z.2 ≠ .cell) (hkind : scope.kind = .function)
    (hnames : ∀ z ∈ scope.names, z.2 = .local → scope.names.lookup z.1 = some .local) (hx : scope.names.lookup x = some .local)
    (hy : env.kindOf y = some .local) (hp : (env.scope.kind == .class || (env.scope.kind == .module && env.locals != env.globals)) = false)
    (h : wpAny (model prog w) A (eval iter env) (TSrc prog w A h₀ L m env elt x scope cl (fun s₂ => FinA h₀ L m s₂ y Q)) E s)
    (hs : ∀ x, foldedSetIterable iter env x = pure x := by intro _; rfl) :
    wpAny (model prog w) A (exec (.Assign [.Name y py] (.ListComp elt [⟨.Name x px, iter, [], 0⟩] scope pos) spos) env) Q E s := by
  subst hLe
  rw [exec_Assign_Name_used _ _ _ _ hsw]
  refine wpAny_bind (wpAny_standAt (wpAny_bind ?_))
  show wpAny _ A (do let _ ← comprehension (.ListComp elt [⟨.Name x px, iter, [], 0⟩] scope pos) scope env _ (newList []) false (eval iter env) (some (assign (.Name y py) env))) _ _ s
  refine wpAny_bind (wpAny_mono (wpAny_comprehension_free (use := some (assign (.Name y py) env)) (Q := fun _ s' => Q .next s') rfl hs hclos hkind hnames
    (wpAny_mono h (fun xv s₁ h₁ => ?_) fun _ _ e => e)) (fun _ s' hq => wpAny_pure (wpAny_pure hq)) fun _ _ e => e)
  obtain ⟨ax, its, news, rfl, hh, F, N, S, hsz, R⟩ := h₁
  have hl := S.tup N
  have hlt : ax < s₁.heap.objs.size := by obtain ⟨_, e, _⟩ := hl; exact Heap.lt_size e
  refine wpAny_pyIter_tuple hl ?_
  have up : ∀ b o, s₁.heap.get? b = some o → (s₁.heap.push { cls := .type "tuple_iterator", data := .fields #[.ref ax, .int 0 0] }).get? b = some o := fun b o e => Heap.get?_push_of_some _ e
  have hl2 : (s₁.heap.push { cls := .type "tuple_iterator", data := .fields #[.ref ax, .int 0 0] }).IsTuple ax its := by
    obtain ⟨o, e, r⟩ := hl
    exact ⟨o, up _ _ e, r⟩
  refine block_U (Walks.tuple hh s₁.heap.objs.size ax (Nat.ne_of_lt hlt) its) hsz (fun i h st => by obtain ⟨o, e, _⟩ := st.1; exact ⟨o, e⟩) tup_st hcell hkind hx ⟨⟨_, Heap.get?_push_size _ rfl, rfl, rfl⟩, hl2⟩ (fun b hb => ?_)
    (F.keeps up) (N.grown up) (Nat.ne_of_lt F.ns.lt) (next_is_new F) (fun p hp => Nat.ne_of_lt (Heap.lt_size (N p hp).1)) S (R _ ⟨_, rfl⟩) ?_
  · show b < (s₁.heap.push _).objs.size
    rw [Heap.size_push]
    rcases List.mem_cons.mp hb with rfl | hb
    · exact Nat.lt_succ_self _
    · rw [List.mem_singleton.mp hb]; exact Nat.lt_succ_of_lt hlt
  · intro D C h' tk m' ys news' F' N' o1 hn hC₀ hD₀ hCL hDL hCD offC fin
    show wpAny _ A (assign (.Name y py) env (.ref D)) _ _ _
    refine wpAny_assign_Name (wpAny_storeName_local hy F'.ns (fun h₂ hn₂ hs₂ => ?_) hp)
    have hL₀ : h₀.get? env.locals = none := Heap.get?_none_of_le F'.above
    have F₂ : Fr h₀ env.locals h₂ (fun z => if z = y then some (.ref D) else m z) := ⟨hn₂, fun b o e => hs₂.extBut b o (fun q => by rw [q, hL₀] at e; cases e) (F'.keep b o e), F'.above⟩
    refine ⟨m', hn.sameBut hs₂ hCL, fun h'' hs'' => fin D h'' _ (F₂.change hs'' hCL hC₀) (fun p hp => ?_) o1⟩
    have z : h₂.get? p.1 = some p.2 := hs₂.extBut _ _ (N' p hp).2.1 (N' p hp).1
    refine ⟨hs''.extBut _ _ ?_ z, (N' p hp).2⟩
    rcases List.mem_cons.mp hp with rfl | hp
    · exact Ne.symm hCD
    · exact offC p hp
theorem cend {I C D D2 : Addr} {s₁ : Shared} {oI oC oD o2 : Obj} {S : Led → Prop} {rest : Value → Led → Prop} {y : Value} {h' : Heap} {tk : Nat} {news : Led}
    (F : Fr h₀ L h' m) (N : News h₀ L h' ((D2, o2) :: (I, oI) :: (C, oC) :: (D, oD) :: news)) (l2 : ∀ p ∈ ((I, oI) :: (C, oC) :: (D, oD) :: news : Led), p.1 < D2) (off : Off3 I C D news) (hS : S ((D2, o2) :: news)) (r : rest y ((D2, o2) :: news)) :
    CompEnd h₀ L m s₁ I oI C oC D oD S rest y { s₁ with heap := h', toks := tk } := by
  refine CompEnd.intro F N ((D2, o2) :: news) ?_ ⟨⟨(Nat.ne_of_lt (l2 (I, oI) (.head _))).symm, (Nat.ne_of_lt (l2 (C, oC) (.tail _ (.head _)))).symm, (Nat.ne_of_lt (l2 (D, oD) (.tail _ (.tail _ (.head _))))).symm⟩, off⟩ hS r
  intro p hp
  rcases List.mem_cons.mp hp with rfl | hp
  · exact .tail _ (.head _)
  rcases List.mem_cons.mp hp with rfl | hp
  · exact .tail _ (.tail _ (.head _))
  rcases List.mem_cons.mp hp with rfl | hp
  · exact .tail _ (.tail _ (.tail _ (.head _)))
  rcases List.mem_cons.mp hp with rfl | hp
  · exact .head _
  · exact .tail _ (.tail _ (.tail _ (.tail _ hp)))
end
end Mine

theorem Mine.quietL4 : True := by
  w_top off
  trivial
namespace Mine
section
variable {prog : Program} {w : World} {A : Around} {E : Value → Shared → Prop} {s : Shared} {env : Env} {h₀ : Heap} {xi xc : Str} {body : List Stmt} {Q : Flow → Shared → Prop}
theorem enumLed {l : Addr} {vs : List Value} {n : Nat} {m₀ : Str → Option Value} {news : Led} (J : Nat → (Str → Option Value) → Led → Prop) (hh : A.handled = none) (hl : (l, PySem.W.listOf vs.toArray n) ∈ news) (F : Fr h₀ env.locals s.heap m₀) (N : News h₀ env.locals s.heap news) (hj : J 0 m₀ news)
    (turn : ∀ i v t m₁ nx h tk own, vs[i]? = some v → J i m₁ nx → Fr h₀ env.locals h (fun y => if y = xc then some v else if y = xi then some (.int (i : Nat) t) else m₁ y) → News h₀ env.locals h (own ++ nx) →
      wpAny (model prog w) A (execs body env) (LoopStep3 h₀ env.locals own nx (J (i + 1)) { s with heap := h, toks := tk } (fun v s' => Q (.ret v) s') fun s' => Q .next s') E { s with heap := h, toks := tk })
    (done : ∀ m₁ nx h tk, J vs.length m₁ nx → Fr h₀ env.locals h m₁ → News h₀ env.locals h nx → Q .next { s with heap := h, toks := tk }) :
    wpAny (model prog w) A (call (.type "enumerate") [.ref l]) (fun xv s₁ => wpAny (model prog w) A (pyIter xv) (fun it s₂ => PairAt3 prog w A h₀ env xi xc body Q E it s₂) E s₁) E s := by
  have hls : s.heap.IsList l vs.toArray := ⟨_, (N _ hl).1, rfl, _, rfl⟩
  have hlt : l < s.heap.objs.size := Heap.lt_size (N _ hl).1
  have hLs : env.locals < s.heap.objs.size := F.ns.lt
  have hab : h₀.objs.size ≤ env.locals := F.above
  have hlL : l ≠ env.locals := (N _ hl).2.1
  refine call_enumerate_list hls fun h' he hit hsz hk => ?_
  have F' : Fr h₀ env.locals h' m₀ := F.keeps hk
  have N' : News h₀ env.locals h' news := N.grown hk
  have hl' : h'.IsList l vs.toArray := ⟨_, (N' _ hl).1, rfl, _, rfl⟩
  have hei : s.heap.objs.size + 1 ≠ s.heap.objs.size := Nat.succ_ne_self _
  have hle : l ≠ s.heap.objs.size + 1 := Nat.ne_of_lt (Nat.lt_succ_of_lt hlt)
  have hli : l ≠ s.heap.objs.size := Nat.ne_of_lt hlt
  have hvs : vs.toArray.size = vs.length := by simp
  refine wpAny_pyIter_enum he ?_
  refine ⟨s.heap.objs.size + 1, [s.heap.objs.size + 1, s.heap.objs.size, l], [s.heap.objs.size + 1, s.heap.objs.size], vs.toArray.size, _, _, _, (fun i v0 v1 => ∃ t, v0 = .int i t ∧ vs[i]? = some v1), m₀, news, J, rfl, WalksT.enumerate hh _ _ l hei hle hli vs.toArray, ?_, ?_, ?_, ?_, ⟨⟨_, he⟩, hit, hl'⟩, F', N', hj, ?_, ?_⟩
  · rintro i vals ⟨t, x, hx, rfl⟩
    exact ⟨_, _, rfl, t, rfl, by simpa using hx⟩
  · intro hm
    rcases List.mem_cons.mp hm with e | hm
    · rw [e] at hLs; exact absurd (Nat.lt_of_succ_lt hLs) (Nat.lt_irrefl _)
    · rcases List.mem_cons.mp hm with e | hm
      · rw [e] at hLs; exact absurd hLs (Nat.lt_irrefl _)
      · exact hlL (List.mem_singleton.mp hm).symm
  · intro b hb
    rcases List.mem_cons.mp hb with rfl | hb
    · exact Heap.get?_none_of_le (Nat.le_trans hab (Nat.le_succ_of_le (Nat.le_of_lt hLs)))
    · rw [List.mem_singleton.mp hb]; exact Heap.get?_none_of_le (Nat.le_trans hab (Nat.le_of_lt hLs))
  · intro p hp hb
    have h1 := Heap.lt_size (N p hp).1
    rcases List.mem_cons.mp hb with e | hb
    · rw [e] at h1; exact absurd (Nat.lt_of_succ_lt h1) (Nat.lt_irrefl _)
    · rw [List.mem_singleton.mp hb] at h1; exact absurd h1 (Nat.lt_irrefl _)
  · rintro i v0 v1 m₁ news₁ s₁ own ⟨h1, tk1, rfl⟩ _ ⟨t, rfl, hv⟩ hJ ha hsub F₁ N₁
    exact turn i v1 t m₁ news₁ h1 tk1 own hv hJ F₁ N₁
  · intro h2 tk m' news' F2 N2 _ hJ
    rw [hvs] at hJ
    exact done m' news' h2 tk hJ F2 N2
def QEnd (h₀ : Heap) (L : Addr) (own news : Led) (xi xc : Str) (m₀ : Str → Option Value) (s : Shared) (f : Flow) (s' : Shared) : Prop :=
  f = .next ∧ ∃ h' tk' m', s' = { s with heap := h', toks := tk' } ∧ Fr h₀ L h' m' ∧ News h₀ L h' (own ++ news) ∧ (∀ z, z ≠ xi → z ≠ xc → m' z = m₀ z)
theorem QEnd.intro {L : Addr} {own news : Led} {m₀ m' : Str → Option Value} {h' : Heap} {tk' : Nat} (F : Fr h₀ L h' m') (N : News h₀ L h' (own ++ news)) (h : ∀ z, z ≠ xi → z ≠ xc → m' z = m₀ z) :
    QEnd h₀ L own news xi xc m₀ s .next { s with heap := h', toks := tk' } := ⟨rfl, h', tk', m', rfl, F, N, h⟩
theorem enumQuiet {l : Addr} {vs : List Value} {n : Nat} {m₀ : Str → Option Value} {news : Led} (hh : A.handled = none) (F : Fr h₀ env.locals s.heap m₀) (N : News h₀ env.locals s.heap news) (hl : (l, PySem.W.listOf vs.toArray n) ∈ news)
    (turn : ∀ i v t (u : Str → Option Value) h tk own, vs[i]? = some v → Fr h₀ env.locals h (fun y => if y = xc then some v else if y = xi then some (.int (i : Nat) t) else (if [xi, xc].contains y then u y else m₀ y)) → News h₀ env.locals h (own ++ news) →
      wpAny (model prog w) A (execs body env) (QEnd h₀ env.locals own news xi xc m₀ { s with heap := h, toks := tk }) E { s with heap := h, toks := tk })
    (done : ∀ (u : Str → Option Value) h tk, Fr h₀ env.locals h (fun z => if [xi, xc].contains z then u z else m₀ z) → News h₀ env.locals h news → Q .next { s with heap := h, toks := tk }) :
    wpAny (model prog w) A (call (.type "enumerate") [.ref l]) (fun xv s₁ => wpAny (model prog w) A (pyIter xv) (fun it s₂ => PairAt3 prog w A h₀ env xi xc body Q E it s₂) E s₁) E s := by
  have key : ∀ {m₁ : Str → Option Value}, (∀ z, z ≠ xi → z ≠ xc → m₁ z = m₀ z) → (fun z => if [xi, xc].contains z then m₁ z else m₀ z) = m₁ := by
    intro m₁ h1
    funext z
    by_cases h2 : z = xi
    · subst h2; simp
    · by_cases h3 : z = xc
      · subst h3; simp
      · simp [h2, h3, h1 z h2 h3]
  refine enumLed (fun _ m₁ nx => nx = news ∧ ∀ z, z ≠ xi → z ≠ xc → m₁ z = m₀ z) hh hl F N ⟨rfl, fun _ _ _ => rfl⟩ ?_ ?_
  · rintro i v t m₁ nx h tk own hv ⟨rfl, h1⟩ F1 N1
    have e : (fun y => if y = xc then some v else if y = xi then some (.int (i : Nat) t) else m₁ y) = (fun y => if y = xc then some v else if y = xi then some (.int (i : Nat) t) else (if [xi, xc].contains y then m₁ y else m₀ y)) := by
      have := key h1
      funext y
      have h2 := congrFun this y
      (try dsimp only at h2)
      rw [h2]
    rw [e] at F1
    refine wpAny_mono (turn i v t m₁ h tk own hv F1 N1) (fun f s' hp => ?_) fun _ _ x => x
    obtain ⟨rfl, h', tk', m', rfl, F', N', h2⟩ := hp
    exact ⟨rfl, h', tk', m', nx, rfl, F', N', rfl, rfl, h2⟩
  · rintro m₁ nx h tk ⟨rfl, h1⟩ F1 N1
    rw [← key h1] at F1
    exact done m₁ h tk F1 N1
end
end Mine

theorem Mine.quietL5 : True := by
  w_top off
  trivial
namespace Mine
open LCg
def menuL (i : Nat) : List Nat := [[47], [47], [97], [98], [46], [47, 47], [97, 46, 98], [97, 98]].getD i []
def menuS (k : Int) : Str := S (menuL (k.fmod 8).toNat)
section
variable {prog : Program} {w : World} {A : Around} {E : Value → Shared → Prop} {s : Shared} {h₀ : Heap} {L : Addr} {m : Str → Option Value} {news : Led} {env : Env}
theorem rest_ints {elt : Expr} {x : Str} {scope : Scope} {cl : List (Str × Addr)} {S' : Led → Prop} {Fin : List Value → Led → Prop} {vs : List Value} {ks : List Int} (hi : IntsAre vs ks) (g : Int → Str)
    (turn : ∀ k t I oI C oC D m₂ ys h tk (E' : Value → Shared → Prop) (R : Value → Led → Prop), k ∈ ks → NsObj oC m₂ → m₂ x = some (.int k t) → Fr h₀ L h m → News h₀ L h ((I, oI) :: (C, oC) :: (D, lst ys) :: news) → Off3 I C D news → ((@Ne Nat I C) ∧ (@Ne Nat I D) ∧ (@Ne Nat C D)) →
      (∀ t', R (.str (g k) t') news) →
      wpAny (model prog w) A (eval elt (compEnvC scope cl C env)) (CompEnd h₀ L m { s with heap := h, toks := tk } I oI C oC D (lst ys) S' R) E' { s with heap := h, toks := tk })
    (fin : ∀ ys, StrsAre ys (ks.map g) → Fin ys news) :
    CompRest prog w A h₀ L m env elt x scope cl s S' (fun i v => vs.toArray[i]? = some v) Fin vs.toArray.size 0 [] news := by
  have hlen : vs.length = ks.length := hi.length
  have key : ∀ (k i : Nat) (ys : List Value), k + i = vs.length → StrsAre ys ((ks.take i).map g) → CompRest prog w A h₀ L m env elt x scope cl s S' (fun i v => vs.toArray[i]? = some v) Fin k i ys news := by
    intro k
    induction k with
    | zero =>
      intro i ys hk hy
      refine CompRest.zero (fin ys ?_)
      rw [List.take_of_length_le (by omega)] at hy
      exact hy
    | succ k ih =>
      intro i ys hk hy
      refine CompRest.succ fun v I oI C oC D m₂ h tk E' hv hC hx F N off ne => ?_
      obtain ⟨n, t, rfl, hn⟩ := hi.at i v (by simpa using hv)
      refine turn n t I oI C oC D m₂ ys h tk E' _ (List.mem_of_getElem? hn) hC hx F N off ne fun t' => ih (i + 1) _ (by omega) ?_
      rw [List.take_add_one, hn]
      simp only [Option.toList_some, List.map_append, List.map_cons, List.map_nil]
      exact StrsAre.append' hy (.cons _ _ .nil)
  rw [List.size_toArray]
  exact key _ 0 [] rfl .nil
theorem menu_at {k : Int} {i : Nat} (h : k.fmod 8 = i) (hi : i < 8) : menuS k = S (menuL i) := by unfold menuS; rw [h]; rfl
end
end Mine

theorem Mine.quietL6 : True := by
  w_top off
  trivial
namespace Mine
open LCg
section
variable {prog : Program} {w : World} {A : Around} {E : Value → Shared → Prop} {s : Shared} {h₀ : Heap} {L : Addr} {m : Str → Option Value} {env : Env}
def SSrc (prog : Program) (w : World) (A : Around) (h₀ : Heap) (L : Addr) (m : Str → Option Value) (env : Env) (elt : Expr) (x : Str) (scope : Scope) (cl : List (Str × Addr)) (Fin : Shared → List Value → Led → Prop) (xv : Value) (s₁ : Shared) : Prop :=
  ∃ z t news, xv = .str z t ∧ A.handled = none ∧ Fr h₀ L s₁.heap m ∧ News h₀ L s₁.heap news ∧ z.cps.all (· < 128) = true ∧ z.cps.size ≤ sizeLine ∧
    ∀ s₂ : Shared, (∃ h, s₂ = { s₁ with heap := h }) → CompRest prog w A h₀ L m env elt x scope cl s₂ (fun _ => True) (SignAt z) (Fin s₂) z.cps.size 0 [] news
theorem ListComp_S {elt iter : Expr} {x : Str} {px : Pos} {scope : Scope} {cl : List (Str × Addr)} {pos : Pos} {Q : Value → Shared → Prop} (_F₀ : Fr h₀ L s.heap m)
    (hclos : closureFor scope env = pure cl) (hcell : ∀ y ∈ scope.names, y.2 ≠ .cell) (hkind : scope.kind = .function)
    (hnames : ∀ y ∈ scope.names, y.2 = .local → scope.names.lookup y.1 = some .local) (hx : scope.names.lookup x = some .local)
    (h : wpAny (model prog w) A (eval iter env) (SSrc prog w A h₀ L m env elt x scope cl (fun s₂ => FinE h₀ L m s₂ Q)) E s)
    (hs : ∀ x, foldedSetIterable iter env x = pure x := by intro _; rfl) :
    wpAny (model prog w) A (eval (.ListComp elt [⟨.Name x px, iter, [], 0⟩] scope pos) env) Q E s := by
  rw [eval_ListComp]
  refine wpAny_comprehension_free (use := none) rfl hs hclos hkind hnames (wpAny_mono h (fun xv s₁ h₁ => ?_) fun _ _ e => e)
  obtain ⟨z, t, news, rfl, hh, F, N, ha, hsz, R⟩ := h₁
  refine wpAny_pyIter_ascii ha ?_
  refine block_U (Walks.strAscii hh _ z t) hsz (fun i h st => by obtain ⟨o, e, _⟩ := st; exact ⟨o, e⟩) (fun i h h' o nw st e e' k N' S => by
      obtain ⟨o', q, r⟩ := st
      rw [e] at q; cases q
      exact ⟨o, e', r⟩) hcell hkind hx ⟨_, Heap.get?_push_size _ rfl, rfl, rfl⟩ (fun b hb => ?_)
    (F.keeps fun _ _ e => Heap.get?_push_of_some _ e) (N.grown fun _ _ e => Heap.get?_push_of_some _ e) (Nat.ne_of_lt F.ns.lt) (next_is_new F) (fun p hp => Nat.ne_of_lt (Heap.lt_size (N p hp).1)) trivial (R _ ⟨_, rfl⟩) ?_
  · rw [List.mem_singleton.mp hb]
    show s₁.heap.objs.size < (s₁.heap.push _).objs.size
    rw [Heap.size_push]; exact Nat.lt_succ_self _
  · intro D C h tk m' ys news' F' N' o1 hn hC₀ hD₀ hCL hDL hCD offC fin
    refine ⟨m', hn, fun h'' hs'' => fin D h'' tk (F'.change hs'' hCL hC₀) (fun p hp => ?_) o1⟩
    refine ⟨hs''.extBut _ _ ?_ (N' p hp).1, (N' p hp).2⟩
    rcases List.mem_cons.mp hp with rfl | hp
    · exact Ne.symm hCD
    · exact offC p hp
theorem ints_snoc {v : Int} {t : Tok} : ∀ {vs : List Value} {ks : List Int}, IntsAre vs ks → IntsAre (vs ++ [.int v t]) (ks ++ [v])
  | _, _, .nil => .cons _ _ .nil
  | _, _, .cons a b h => .cons a b (ints_snoc h)
theorem rest_ords {elt : Expr} {x : Str} {scope : Scope} {cl : List (Str × Addr)} {S' : Led → Prop} {Fin : List Value → Led → Prop} {news : Led} (l : List Nat)
    (turn : ∀ c u I oI C oC D m₂ ys h tk (E' : Value → Shared → Prop) (R : Value → Led → Prop), c ∈ l → NsObj oC m₂ → m₂ x = some (.str ⟨#[c]⟩ u) → Fr h₀ L h m → News h₀ L h ((I, oI) :: (C, oC) :: (D, lst ys) :: news) → Off3 I C D news → ((@Ne Nat I C) ∧ (@Ne Nat I D) ∧ (@Ne Nat C D)) →
      (∀ t', R (.int (c : Nat) t') news) →
      wpAny (model prog w) A (eval elt (compEnvC scope cl C env)) (CompEnd h₀ L m { s with heap := h, toks := tk } I oI C oC D (lst ys) S' R) E' { s with heap := h, toks := tk })
    (fin : ∀ ys, IntsAre ys (l.map fun c : Nat => (c : Int)) → Fin ys news) :
    CompRest prog w A h₀ L m env elt x scope cl s S' (SignAt (S l)) Fin (S l).cps.size 0 [] news := by
  have hlen : (S l).cps.size = l.length := len_S l
  have key : ∀ (k i : Nat) (ys : List Value), k + i = l.length → IntsAre ys ((l.take i).map fun c : Nat => (c : Int)) → CompRest prog w A h₀ L m env elt x scope cl s S' (SignAt (S l)) Fin k i ys news := by
    intro k
    induction k with
    | zero =>
      intro i ys hk hy
      refine CompRest.zero (fin ys ?_)
      rw [List.take_of_length_le (by omega)] at hy
      exact hy
    | succ k ih =>
      intro i ys hk hy
      refine CompRest.succ fun v I oI C oC D m₂ h tk E' hv hC hx F N off ne => ?_
      obtain ⟨c, u, hc, rfl⟩ := hv
      have hc2 : l[i]? = some c := by
        rw [← Array.getElem?_toList] at hc
        rwa [show (S l).cps.toList = l from tl_S l] at hc
      refine turn c u I oI C oC D m₂ ys h tk E' _ (List.mem_of_getElem? hc2) hC hx F N off ne fun t' => ih (i + 1) _ (by omega) ?_
      rw [List.take_add_one, hc2]
      simp only [Option.toList_some, List.map_append, List.map_cons, List.map_nil]
      exact ints_snoc hy
  rw [hlen]
  exact key _ 0 [] rfl .nil
end
end Mine

theorem Mine.quietL7 : True := by
  w_top off
  trivial
namespace Mine
section
open PySem.W
variable {prog : Program} {w : World} {A : Around} {E : Value → Shared → Prop} {s : Shared} {h₀ : Heap} {L : Addr} {news : Led}
theorem neTupS {a b la lb : Addr} {x : Str} {t u : Tok} {va vb : List Value} {xs : List Str} {n1 n2 n3 n4 : Nat} {Q : Value → Shared → Prop} (N : News h₀ L s.heap news)
    (ma : (a, ({ cls := .type "tuple", data := .seq [Value.str x t, Value.ref la].toArray n1 } : Obj)) ∈ news) (mla : (la, PySem.W.listOf va.toArray n2) ∈ news)
    (mb : (b, ({ cls := .type "tuple", data := .seq [Value.str x u, Value.ref lb].toArray n3 } : Obj)) ∈ news) (mlb : (lb, PySem.W.listOf vb.toArray n4) ∈ news)
    (ha : StrsAre va xs) (hb : StrsAre vb xs) (okx : PyData.strOk x = true) (oks : ∀ y ∈ xs, PyData.strOk y = true) (hu : A.units + 64 < cLine) (h : Q (.bool false) s) :
    wpAny (model prog w) A (compareOp .NotEq (.ref a) (.ref b)) Q E s := by
  have hk : kqdOk 9 (.tuple [.str x, .list (xs.map Dat.str)]) = true := by
    have h1 := datOk_strs oks
    simp only [kqdOk, List.all_cons, List.all_nil, Bool.and_true, Bool.and_eq_true, List.all_eq_true]
    refine ⟨okx, fun d hd => ?_⟩
    obtain ⟨y, hy, rfl⟩ := List.mem_map.mp hd
    exact oks y hy
  obtain ⟨as, ra⟩ := kqd_in N 9 (.tuple ma (.cons (.str x t) (.cons (.list mla (datAll_strs ha)) .nil))) hk
  obtain ⟨bs, rb⟩ := kqd_in N 9 (.tuple mb (.cons (.str x u) (.cons (.list mlb (datAll_strs hb)) .nil))) hk
  have la := kqd_lay 9 _ hk
  have e := (kqd_eqv 9 _ _ 9 hk hk).mpr rfl
  have hs : SeqAt.shaped (kqdP (.tuple [.str x, .list (xs.map Dat.str)])) = true := by
    unfold SeqAt.shaped; rw [la.1, Bool.true_and]; exact decide_eq_true (Nat.le_trans la.2 (by decide))
  exact ne_dataH ra rb hs hs hu (by rw [e]; exact h)
end
end Mine

theorem Mine.quietS1 : True := by
  w_top off
  trivial
namespace Mine
section
variable {prog : Program} {w : World} {A : Around} {E : Value → Shared → Prop} {R : Result → Shared → Prop} {s : Shared}
theorem compTurn_set1 (elt target iter : Expr) (scope : Scope) (pos : Pos) (it acc : Value) (env : Env) :
    compTurn (.SetComp elt [⟨target, iter, [], 0⟩] scope pos) 0 it acc env = (standAt iter.pos >>= fun _ => pyNext it >>= fun r => match r with
      | none => pure (.done .next)
      | some v => letOwnedTupleGo target it v >>= fun _ => assign target env v >>= fun _ =>
        (eval elt env >>= fun x => standAt elt.pos >>= fun _ => call (.builtin "set.add") [acc, x] >>= fun _ => pure ()) >>= fun _ =>
          again (.compLoop (.SetComp elt [⟨target, iter, [], 0⟩] scope pos) 0 it acc env)) := by rfl
theorem codeAny_compLoop_set {elt target iter : Expr} {scope : Scope} {pos : Pos} {it acc : Value} {env : Env} (I : Nat → Shared → Prop)
    (turn : ∀ n s, I n s → wpAny (model prog w) A (pyNext it) (fun r s₁ => match r with
      | none => R (.ok .next) s₁
      | some v => wpAny (model prog w) A (assign target env v) (fun _ s₂ => wpAny (model prog w) A (eval elt env) (fun x s₃ =>
          wpAny (model prog w) A (call (.builtin "set.add") [acc, x]) (fun _ s₄ => ∃ m, m < n ∧ I m s₄) (notedBy (model prog w) A env fun e s' => R (.error e) s') s₃)
          (notedBy (model prog w) A env fun e s' => R (.error e) s') s₂) (notedBy (model prog w) A env fun e s' => R (.error e) s') s₁) (notedBy (model prog w) A env fun e s' => R (.error e) s') s)
    (n : Nat) (h : I n s) (ht : ∀ v, letOwnedTupleGo target it v = pure () := by intro _; rfl) :
    codeAny (model prog w) A (.compLoop (.SetComp elt [⟨target, iter, [], 0⟩] scope pos) 0 it acc env) R s := by
  refine codeAny_loop rfl I (fun n s hI => ?_) n h
  show wpAny _ _ ((compTurn (.SetComp elt [⟨target, iter, [], 0⟩] scope pos) 0 it acc env).onRaise (fun x => do noteFrame x env; theTreesLotGoes x)) _ _ s
  refine wpAny_noted ?_
  rw [compTurn_set1]
  refine wpAny_bind (wpAny_standAt (wpAny_bind (wpAny_mono (turn n s hI) (fun r s₁ h₁ => ?_) fun _ _ h' => h')))
  cases r with
  | none => exact wpAny_pure h₁
  | some v =>
    refine wpAny_bind (wpAny_of_eq (ht v) ?_)
    exact wpAny_bind (wpAny_mono h₁ (fun _ s₂ h₂ => wpAny_bind (wpAny_bind (wpAny_mono h₂ (fun x s₃ h₃ => wpAny_bind (wpAny_standAt (wpAny_bind (wpAny_mono h₃
      (fun _ s₄ h₄ => wpAny_pure (wpAny_pure ⟨rfl, h₄⟩)) fun _ _ h' => h')))) fun _ _ h' => h'))) fun _ _ h' => h')
theorem codeAny_compStart_set {elt target iter ifs rest scope pos it acc env}
    (h0 : codeAny (model prog w) A (.compLoop (.SetComp elt (⟨target, iter, ifs, 0⟩ :: rest) scope pos) 0 it acc env) R s)
    (h : wpAny (model prog w) A (pyIter it) (fun it' s' => codeAny (model prog w) A (.compLoop (.SetComp elt (⟨target, iter, ifs, 0⟩ :: rest) scope pos) 0 it' acc env) R s')
      (notedBy (model prog w) A env fun x s' => R (.error x) s') s) :
    codeAny (model prog w) A (.compStart (.SetComp elt (⟨target, iter, ifs, 0⟩ :: rest) scope pos) 0 it acc env) R s := by
  refine codeAny_of_tree ?_
  show wpAny _ _ ((compStart (.SetComp elt (⟨target, iter, ifs, 0⟩ :: rest) scope pos) 0 it acc env).onRaise (fun x => do noteFrame x env; standAt theWindowsPlace)) _ _ s
  refine wpAny_notedAt ?_
  unfold compStart
  show wpAny _ _ (ask >>= _) _ _ s
  refine wpAny_bind (wpAny_askSetting (wpAny_ite ?_))
  split
  · first
      | exact wpAny_bind (wpAny_pure (wpAny_pure (And.intro rfl h0)))
      | exact wpAny_pure (And.intro rfl h0)
  · first
      | exact wpAny_bind (wpAny_rule (wpAny_bind (wpAny_standAt (wpAny_bind (wpAny_mono h (fun it' s' h' => wpAny_pure (And.intro rfl h')) fun _ _ x => x)))))
      | (refine wpAny_bind (wpAny_rule ?_); show wpAny _ _ (standAt iter.pos >>= _) _ _ s; exact wpAny_bind (wpAny_standAt (wpAny_bind (wpAny_mono h (fun it' s' h' => wpAny_pure (And.intro rfl h')) fun _ _ x => x))))
def isB : Bool → Value → Bool
  | b, .bool c => c == b
  | _, _ => false
theorem isB_shape {b : Bool} {v : Value} (h : isB b v = true) : v = .bool b := by
  cases v <;> simp_all [isB]
theorem gives_b_eq (a b : Bool) : Gives (Builtin.«int.__eq__» ⟨[.bool a, .bool b], []⟩) (.val (.bool (decide (a = b)))) := by
  cases a <;> cases b <;> exact .of_eq rfl
theorem pyHash_b {b : Bool} {Q : Int → Shared → Prop} (h : Q (hashInt (if b then 1 else 0)) { s with toks := s.toks + 1 }) : wpAny (model prog w) A (pyHash (.bool b)) Q E s := by
  have hT : s.TypeIs (.bool b) "bool" := rfl
  have hr := rawHash_range (if b then 1 else 0)
  unfold pyHash
  have hv : [Value.bool b].any Value.onHeap = false := rfl
  refine wpAny_bind ?_
  rw [cRoomFor, if_neg (by rw [hv]; exact Bool.false_ne_true)]; refine wpAny_pure ?_
  refine wpAny_bind (wpAny_specialOf hT PySem.F.slot_bool_hash.lookup ?_)
  show wpAny _ _ (if (some (Value.builtin "int.__hash__") == some Value.none) = true then _ else _) Q E s
  rw [if_neg (by rw [beq_builtin_none]; exact Bool.false_ne_true)]
  refine wpAny_bind (wpAny_specialOf hT PySem.F.slot_bool_hash.lookup ?_)
  show wpAny _ _ (callSpecialIfBoundUnlessNone? (.bool b) "__hash__" _ >>= _) Q E s
  have e : Builtin.«int.__hash__» ⟨[.bool b], []⟩ = (do ret (← mkInt (rawHash (if b then 1 else 0)))) := by cases b <;> rfl
  refine wpAny_bind (wpAny_callSpecialIfBoundUnlessNone?_slot hT PySem.F.slot_bool_hash
    (wpAny_call_entry PySem.F.slot_bool_hash hT PySem.F.entry_int_hash (e ▸ wpAny_ret_mkInt ?_) (by first | exact PySem.F.args_int_hash_1 _ | exact args_int_hash _)))
  show wpAny _ _ (if (decide (-(2 : Int) ^ 63 ≤ rawHash (if b then 1 else 0)) && decide (rawHash (if b then 1 else 0) < 2 ^ 63)) = true then _ else _) Q E _
  rw [if_pos (by rw [decide_eq_true hr.1, decide_eq_true hr.2]; rfl)]
  exact wpAny_pure h
theorem eqBool_b {a b : Bool} {Q : Bool → Shared → Prop} (h : Q (decide (a = b)) s) : wpAny (model prog w) A (eqBool (.bool a) (.bool b)) Q E s := by
  unfold eqBool
  show wpAny _ _ (if (Value.bool a == Value.bool b) = true then _ else _) Q E s
  by_cases hab : (Value.bool a == Value.bool b) = true
  · rw [if_pos hab]
    have e : a = b := by have := eq_of_beq hab; injection this
    subst e
    exact wpAny_bind (wpAny_rule (wpAny_pure (by simpa using h)))
  · rw [if_neg hab]
    refine wpAny_bind (richCompare_gives (op := .Eq) (T := "bool") rfl rfl PySem.F.slot_bool_eq PySem.F.entry_int_eq (PySem.F.args_int_eq_2 _ _) (gives_b_eq a b) (fun x => nomatch x) (wpAny_truthy_bool h))
end
def bKind (prog : Program) (w : World) : KeyKind prog w Bool where
  is := isB
  hash := fun b => hashInt (if b then 1 else 0)
  inj := fun v a b ha hb => by have h1 := isB_shape ha; have h2 := isB_shape hb; rw [h1] at h2; injection h2
  byValue := fun k v h => by obtain rfl := isB_shape h; rfl
  pyHash := fun hv h => by obtain rfl := isB_shape hv; exact pyHash_b h
  eqBool := fun hu hv h => by
    obtain rfl := isB_shape hu
    obtain rfl := isB_shape hv
    exact eqBool_b h
  «strs» := fun k x t v h => by simp [isB] at h
end Mine

theorem Mine.quietS3 : True := by
  w_top off
  trivial
namespace Mine
abbrev hB (b : Bool) : Int := hashInt (if b then 1 else 0)
abbrev freshO (led : Bool) : Obj := { cls := .type "set", dict := none, data := .set #[] 0 (.fresh 0 0 led) }
def t1 (b led : Bool) : SetTable := (layNew (SetTable.fresh 0 0 led) #[] (hB b) (.bool b)).2.1
theorem lay_eq (b led : Bool) : layNew (SetTable.fresh 0 0 led) #[] (hB b) (.bool b) = (#[(hB b, .bool b)], t1 b led, false, false) := by
  cases b <;> cases led <;> rfl
theorem t1_plain (b led : Bool) : (t1 b led).plain = true := by cases b <;> cases led <;> decide +kernel
theorem t1_full (b led : Bool) : (t1 b led).tooFull = false := by cases b <;> cases led <;> decide +kernel
theorem t1_fits (b led : Bool) : (t1 b led).fits 1 = true := by cases b <;> cases led <;> decide +kernel
theorem t1_led (b led : Bool) : (t1 b led).led = led := by cases b <;> cases led <;> decide +kernel
abbrev oneO (b led : Bool) (ep : Nat) : Obj := { cls := .type "set", dict := none, data := .set #[(hB b, .bool b)] ep (t1 b led) }
section
variable {prog : Program} {w : World} {A : Around} {E : Value → Shared → Prop} {s : Shared}
theorem elems1 (b : Bool) : ElemsOf (bKind prog w) [(hB b, Value.bool b)] := by
  intro e he
  rw [List.mem_singleton.mp he]
  exact ⟨⟨b, by simp [bKind, isB], rfl⟩, rfl⟩
theorem add_first {D : Addr} {b led : Bool} {Q : Bool → Shared → Prop} (ho : s.heap.get? D = some (freshO led))
    (h : ∀ h' ep, Heap.SameBut D s.heap h' → h'.get? D = some (oneO b led ep) → Q true { s with heap := h' }) :
    wpAny (model prog w) A (setAddHashed D (.bool b) (hB b)) Q E s := by
  unfold setAddHashed setAddHashedIn
  refine wpAny_holding (wpAny_bind (wpAny_setState_of ho rfl rfl ?_))
  dsimp only
  rw [byScan_of (knd := bKind prog w) (x := .bool b) rfl (by decide) (fun e he => by simp at he)]
  simp only [↓reduceIte]
  unfold setAddByScan
  refine wpAny_bind ?_
  refine wpAny_bind (wpAny_rule ?_)
  refine wpAny_bind (wpAny_setScan_of (knd := bKind prog w) (k := b) (by simp [bKind, isB]) ho rfl rfl (fun e he => by simp at he) ?_)
  simp only [List.findIdx?_nil]
  generalize hL : layNew (SetTable.fresh 0 0 led) #[] (hB b) (.bool b) = Lx
  rw [lay_eq] at hL
  subst hL
  dsimp only
  refine wpAny_bind (wpAny_pure ?_)
  rw [if_pos (t1_plain b led)]
  refine wpAny_bind (wpAny_pure ?_)
  refine wpAny_bind (wpAny_storeSet_of ho rfl ?_ (by show 1 ≤ sizeLine; decide))
  simp only [↓reduceIte, t1_full, Bool.and_false, Bool.false_eq_true, if_false]
  have hz := h _ 1 (Heap.SameBut.update s.heap D (Obj.putSet #[(hB b, .bool b)] (t1 b led))) (by rw [Heap.get?_update_self _ ho rfl]; rfl)
  refine wpAny_pure ?_
  exact wpAny_pure hz
theorem add_again {D : Addr} {b led : Bool} {ep : Nat} {Q : Bool → Shared → Prop} (ho : s.heap.get? D = some (oneO b led ep)) (h : Q false s) :
    wpAny (model prog w) A (setAddHashed D (.bool b) (hB b)) Q E s := by
  unfold setAddHashed setAddHashedIn
  refine wpAny_holding (wpAny_bind (wpAny_setState_of ho rfl (t1_fits b led) ?_))
  dsimp only
  rw [byScan_of (knd := bKind prog w) (x := .bool b) rfl (by show 1 < scanBound; decide) (elems1 b)]
  simp only [↓reduceIte]
  unfold setAddByScan
  refine wpAny_bind ?_
  refine wpAny_bind (wpAny_rule ?_)
  refine wpAny_bind (wpAny_setScan_of (knd := bKind prog w) (k := b) (by simp [bKind, isB]) ho rfl (t1_fits b led) (elems1 b) ?_)
  have e : List.findIdx? (fun e => (bKind prog w).is b e.2) [(hB b, Value.bool b)] = some 0 := by simp [bKind, isB]
  dsimp only
  rw [e]
  exact wpAny_pure (wpAny_pure h)
def SB (b led : Bool) : Nat → Obj → Prop
  | 0, o => o = freshO led
  | _ + 1, o => ∃ ep, o = oneO b led ep
theorem call_add {D : Addr} {b led : Bool} {i : Nat} {oD : Obj} {Q : Value → Shared → Prop} (ho : s.heap.get? D = some oD) (hs : SB b led i oD)
    (h : ∀ h' oD', Heap.SameBut D s.heap h' → h'.get? D = some oD' → SB b led (i + 1) oD' → Q .none { s with heap := h', toks := s.toks + 1 }) :
    wpAny (model prog w) A (call (.builtin "set.add") [.ref D, .bool b]) Q E s := by
  have hT : s.TypeIs (.ref D) "set" := by
    cases i with
    | zero => obtain rfl := hs; exact ⟨_, ho, rfl⟩
    | succ i => obtain ⟨ep, rfl⟩ := hs; exact ⟨_, ho, rfl⟩
  refine wpAny_call_entry PySem.F.slot_set_add hT PySem.F.entry_set_add ?_ (PySem.F.args_set_add_2 _ _)
  unfold Builtin.«set.add» Builtin.Frozenset.oneOther
  simp only [List.isEmpty_nil, bind_assoc]
  unfold Builtin.Frozenset.addrOf setAdd
  refine wpAny_bind (wpAny_pure ?_)
  try dsimp only
  refine wpAny_bind (wpAny_pure ?_)
  try dsimp only
  refine wpAny_bind ?_
  refine wpAny_holding ?_
  refine wpAny_bind (pyHash_b ?_)
  cases i with
  | zero =>
    obtain rfl := hs
    refine add_first (s := { s with toks := s.toks + 1 }) ho fun h' ep hsb hg => ?_
    show wpAny _ _ (ret Value.none) _ _ _
    exact wpAny_pure ⟨_, rfl, h h' _ hsb hg ⟨ep, rfl⟩⟩
  | succ i =>
    obtain ⟨ep, rfl⟩ := hs
    refine add_again (s := { s with toks := s.toks + 1 }) ho ?_
    show wpAny _ _ (ret Value.none) _ _ _
    exact wpAny_pure ⟨_, rfl, h s.heap _ (Heap.SameBut.refl ..) ho ⟨ep, rfl⟩⟩
def ledW (w : World) : Bool := !(w.params.followText "set-order")
theorem newSet_b {Q : Value → Shared → Prop} (h : Q (.ref s.heap.objs.size) { s with heap := s.heap.push (freshO (ledW w)) }) : wpAny (model prog w) A (newSet (.type "set")) Q E s := by
  unfold newSet setsByText
  refine wpAny_bind (wpAny_bind (wpAny_askSetting (wpAny_pure ?_)))
  dsimp only
  simp only [newObj]
  exact wpAny_bind (wpAny_alloc (wpAny_pure h))
end
end Mine

theorem Mine.quietS2 : True := by
  w_top off
  trivial
namespace Mine
section
open LCg
variable {prog : Program} {w : World} {A : Around} {E : Value → Shared → Prop} {s : Shared} {h₀ : Heap} {L : Addr} {m : Str → Option Value} {env : Env}
abbrev tItO (ax : Addr) (i : Nat) (o : Obj) : Prop := o.cls = .type "tuple_iterator" ∧ o.data = .fields #[.ref ax, .int i 0]
theorem tItO.at {h : Heap} {I ax : Addr} {i : Nat} {o : Obj} (x : tItO ax i o) (e : h.get? I = some o) : h.IsTupleIter I ax i := ⟨o, e, x.1, x.2⟩
def SetSrc (prog : Program) (w : World) (A : Around) (h₀ : Heap) (L : Addr) (m : Str → Option Value) (env : Env) (elt : Expr) (x : Str) (scope : Scope) (cl : List (Str × Addr)) (b : Bool) (Q : Value → Shared → Prop) (xv : Value) (s₁ : Shared) : Prop :=
  ∃ (ax : Addr) (its : Array Value) (news : Led), xv = .ref ax ∧ A.handled = none ∧ Fr h₀ L s₁.heap m ∧ News h₀ L s₁.heap news ∧ TupAt ax its news ∧ 1 ≤ its.size ∧
    (∀ (i : Nat) v I oI C oC D oD m₂ h tk (E' : Value → Shared → Prop), its[i]? = some v → NsObj oC m₂ → m₂ x = some v → Fr h₀ L h m → News h₀ L h ((I, oI) :: (C, oC) :: (D, oD) :: news) → Off3 I C D news → ((@Ne Nat I C) ∧ (@Ne Nat I D) ∧ (@Ne Nat C D)) →
       wpAny (model prog w) A (eval elt (compEnvC scope cl C env)) (fun r s' => r = .bool b ∧ ∃ h' tk', s' = { s₁ with heap := h', toks := tk' } ∧ Fr h₀ L h' m ∧ News h₀ L h' ((I, oI) :: (C, oC) :: (D, oD) :: news)) E' { s₁ with heap := h, toks := tk }) ∧
    (∀ D oD h tk, SB b (ledW w) 1 oD → Fr h₀ L h m → News h₀ L h ((D, oD) :: news) → Off1 D news → Q (.ref D) { s₁ with heap := h, toks := tk })
theorem set_loop {elt iter : Expr} {x : Str} {px : Pos} {scope : Scope} {cl : List (Str × Addr)} {pos : Pos} {b : Bool} {ax I C D : Addr} {its : Array Value} {news : Led} {R : Result → Shared → Prop} {s₁ : Shared}
    (hh : A.handled = none) (hkind : scope.kind = .function) (hx : scope.names.lookup x = some .local) (hT : TupAt ax its news)
    (turn : ∀ (i : Nat) v oI oC oD m₂ h tk (E' : Value → Shared → Prop), its[i]? = some v → NsObj oC m₂ → m₂ x = some v → Fr h₀ L h m → News h₀ L h ((I, oI) :: (C, oC) :: (D, oD) :: news) →
       wpAny (model prog w) A (eval elt (compEnvC scope cl C env)) (fun r s' => r = .bool b ∧ ∃ h' tk', s' = { s₁ with heap := h', toks := tk' } ∧ Fr h₀ L h' m ∧ News h₀ L h' ((I, oI) :: (C, oC) :: (D, oD) :: news)) E' { s₁ with heap := h, toks := tk })
    (off : Off3 I C D news) (ne : (@Ne Nat I C) ∧ (@Ne Nat I D) ∧ (@Ne Nat C D))
    (fin : ∀ oC oD m₂ h tk, NsObj oC m₂ → SB b (ledW w) its.size oD → Fr h₀ L h m → News h₀ L h ((C, oC) :: (D, oD) :: news) → R (.ok .next) { s₁ with heap := h, toks := tk })
    {oI oC oD : Obj} {m₂ : Str → Option Value} {h : Heap} {tk : Nat} (hI : tItO ax 0 oI) (hC : NsObj oC m₂) (hD : SB b (ledW w) 0 oD) (F : Fr h₀ L h m) (N : News h₀ L h ((I, oI) :: (C, oC) :: (D, oD) :: news)) :
    codeAny (model prog w) A (.compLoop (.SetComp elt [⟨.Name x px, iter, [], 0⟩] scope pos) 0 (.ref I) (.ref D) (compEnvC scope cl C env)) R { s₁ with heap := h, toks := tk } := by
  have hk := off.mem
  refine codeAny_compLoop_set (fun n s' => ∃ i h' tk' oI oC oD m₂, s' = { s₁ with heap := h', toks := tk' } ∧ i ≤ its.size ∧ n = its.size + 1 - i ∧ tItO ax i oI ∧ NsObj oC m₂ ∧ SB b (ledW w) i oD ∧ Fr h₀ L h' m ∧ News h₀ L h' ((I, oI) :: (C, oC) :: (D, oD) :: news)) ?_ (its.size + 1)
    ⟨0, h, tk, oI, oC, oD, m₂, rfl, Nat.zero_le _, rfl, hI, hC, hD, F, N⟩
  rintro n s' ⟨i, h', tk', oI, oC, oD, m₂, rfl, hi, rfl, hI, hC, hD, F, N⟩
  have gI := N (I, oI) (.head _)
  have gC := N (C, oC) (.tail _ (.head _))
  have gT : h'.IsTuple ax its := by
    obtain ⟨o, hm, r⟩ := hT
    exact ⟨o, (N _ (.tail _ (.tail _ (.tail _ hm)))).1, r⟩
  have apI : ∀ p ∈ ((C, oC) :: (D, oD) :: news : Led), p.1 ≠ I := fun p hp => by
    rcases List.mem_cons.mp hp with rfl | hp
    · exact ne.1.symm
    · rcases List.mem_cons.mp hp with rfl | hp
      · exact ne.2.1.symm
      · exact (hk p hp).1
  by_cases hlt : i < its.size
  · refine wpAny_pyNext_tuple_item (hI.at gI.1) gT (x := its[i]) (by simp [hlt]) fun h2 hI2 hs2 => ?_
    obtain ⟨oI2, gI2, hI2⟩ := hI2
    have F2 := Fr.change F hs2 gI.2.1 gI.2.2
    have N2 := News.setHead N apI hs2 gI2
    have gC2 := N2 (C, oC) (.tail _ (.head _))
    refine wpAny_assign_Name (wpAny_storeName_local (lookup_relabel_local hx) (hC.ns gC2.1) (fun h3 hn3 hs3 => ?_) (by simp [compEnvC, relabel, hkind]))
    obtain ⟨oC3, heC3, hoC3⟩ := ns_obj hn3
    have F3 := Fr.change F2 hs3 gC2.2.1 gC2.2.2
    have N3 : News h₀ L h3 ((I, oI2) :: (C, oC3) :: (D, oD) :: news) := News.setSecond N2 ne.1 (fun p hp => by
      rcases List.mem_cons.mp hp with rfl | hp
      · exact ne.2.2.symm
      · exact (hk p hp).2.1) hs3 heC3
    refine wpAny_mono (turn i its[i] oI2 oC3 oD _ h3 _ _ (by simp [hlt]) hoC3 (by simp) F3 N3) (fun r s4 h4 => ?_) fun _ _ e => e
    obtain ⟨rfl, h4, tk4, rfl, F4, N4⟩ := h4
    have gD := N4 (D, oD) (.tail _ (.tail _ (.head _)))
    refine call_add gD.1 hD fun h5 so5 hs5 g5 x5 => ?_
    have F5 := Fr.change F4 hs5 gD.2.1 gD.2.2
    have N5 : News h₀ L h5 ((I, oI2) :: (C, oC3) :: (D, so5) :: news) := News.setIn (own := [(I, oI2), (C, oC3)]) N4 (fun p hp => by
      rcases List.mem_cons.mp hp with rfl | hp
      · exact ne.2.1
      · rw [List.mem_singleton.mp hp]; exact ne.2.2) (fun p hp => (hk p hp).2.2) hs5 g5
    exact ⟨its.size + 1 - (i + 1), by omega, i + 1, h5, _, oI2, oC3, so5, _, rfl, hlt, rfl, hI2, hoC3, x5, F5, N5⟩
  · obtain rfl : i = its.size := by omega
    refine wpAny_pyNext_tuple_end hh (hI.at gI.1) gT (by simp) fun h2 hs2 => ?_
    have hk2 : ∀ b o, b ∉ [I] → h'.get? b = some o → h2.get? b = some o := fun b o hb x => hs2 b o (fun e => hb (e ▸ .head _)) x
    exact fin oC oD m₂ h2 _ hC hD (fr_but F hk2 gI.2.1.symm gI.2.2) (news_but (fun p hp => N p (.tail _ hp)) hk2 apI)
theorem SetComp_b {elt iter : Expr} {x : Str} {px : Pos} {scope : Scope} {cl : List (Str × Addr)} {pos : Pos} {Q : Value → Shared → Prop} (b : Bool) (_F₀ : Fr h₀ L s.heap m)
    (hclos : closureFor scope env = pure cl) (hcell : ∀ y ∈ scope.names, y.2 ≠ .cell) (hkind : scope.kind = .function)
    (hnames : ∀ y ∈ scope.names, y.2 = .local → scope.names.lookup y.1 = some .local) (hx : scope.names.lookup x = some .local)
    (h : wpAny (model prog w) A (eval iter env) (SetSrc prog w A h₀ L m env elt x scope cl b Q) E s)
    (hs : ∀ x, foldedSetIterable iter env x = pure x := by intro _; rfl) :
    wpAny (model prog w) A (eval (.SetComp elt [⟨.Name x px, iter, [], 0⟩] scope pos) env) Q E s := by
  rw [arm_eval_SetComp]
  refine wpAny_comprehension_free (use := none) rfl hs hclos hkind hnames (wpAny_mono h (fun xv s₁ h₁ => ?_) fun _ _ e => e)
  obtain ⟨ax, its, news, rfl, hh, F, N, hT, hpos, turn, fin⟩ := h₁
  have hl := hT.tup N
  refine wpAny_pyIter_tuple hl ?_
  have F1 := F.push ({ cls := .type "tuple_iterator", data := .fields #[.ref ax, .int 0 0] } : Obj)
  have N1 := News.push F N ({ cls := .type "tuple_iterator", data := .fields #[.ref ax, .int 0 0] } : Obj) rfl
  have a1 : ∀ p ∈ news, p.1 < s₁.heap.objs.size := fun p hp => Heap.lt_size (N p hp).1
  generalize hI : s₁.heap.objs.size = I at N1 a1
  refine newSet_b ?_
  have F2 := F1.push (freshO (ledW w))
  have N2 := News.push F1 N1 (freshO (ledW w)) rfl
  have hO : SB b (ledW w) 0 (freshO (ledW w)) := rfl
  have a2 : I < (s₁.heap.push ({ cls := .type "tuple_iterator", data := .fields #[.ref ax, .int 0 0] } : Obj)).objs.size := by rw [Heap.size_push, hI]; exact Nat.lt_succ_self _
  dsimp only
  generalize hD : (s₁.heap.push ({ cls := .type "tuple_iterator", data := .fields #[.ref ax, .int 0 0] } : Obj)).objs.size = D at N2 a2 ⊢
  generalize (freshO (ledW w)) = oD at hO F2 N2 ⊢
  generalize hH : (s₁.heap.push ({ cls := .type "tuple_iterator", data := .fields #[.ref ax, .int 0 0] } : Obj)).push oD = H at F2 N2 ⊢
  have a3 : D < H.objs.size := by rw [← hH, Heap.size_push, hD]; exact Nat.lt_succ_self _
  refine wpAny_newFunctionEnv hcell (by intro y hy; simp at hy) (fun h₁ hns hsb => ?_) hkind
  dsimp only at hns hsb ⊢
  obtain ⟨oC, eC, hC⟩ := ns_obj hns
  have F3 : Fr h₀ L h₁ m := F2.filled hsb
  have N3 := News.filled F2 N2 hsb eC
  have off : Off3 I H.objs.size D news := Off3.of fun p hp => ⟨Nat.ne_of_lt (a1 p hp), Nat.ne_of_lt (Nat.lt_trans (a1 p hp) (Nat.lt_trans a2 a3)), Nat.ne_of_lt (Nat.lt_trans (a1 p hp) a2)⟩
  have ne : (@Ne Nat I H.objs.size) ∧ (@Ne Nat I D) ∧ (@Ne Nat H.objs.size D) := ⟨Nat.ne_of_lt (Nat.lt_trans a2 a3), Nat.ne_of_lt a2, (Nat.ne_of_lt a3).symm⟩
  have loop : codeAny (model prog w) A (.compLoop (.SetComp elt [⟨.Name x px, iter, [], 0⟩] scope pos) 0 (.ref I) (.ref D) (compEnvC scope cl H.objs.size env))
      (compPost (model prog w) A E none Q (.ref D) H.objs.size) { s₁ with heap := h₁, toks := s₁.toks + ([] : List (Str × Value)).length } := by
    refine set_loop (b := b) (ax := ax) (its := its) (news := news) (I := I) (C := H.objs.size) (D := D) hh hkind hx hT (fun i v oI oC oD m₂ h tk E' hv hC hm F N => turn i v I oI _ oC D oD m₂ h tk E' hv hC hm F N off ne) off ne ?_ (oI := ({ cls := .type "tuple_iterator", data := .fields #[.ref ax, .int 0 0] } : Obj)) ⟨rfl, rfl⟩ hC (oD := oD) ?_ F3 ?_
    · intro oC oD m₂ h tk hC hD F N
      have gC := N (_, oC) (.head _)
      refine ⟨m₂, hC.ns gC.1, fun h' hs' => fin D oD h' tk ?_ (Fr.change F hs' gC.2.1 gC.2.2) (fun p hp => ?_) off.one⟩
      · obtain ⟨k, hk⟩ : ∃ k, its.size = k + 1 := ⟨its.size - 1, by omega⟩
        rw [hk] at hD
        exact hD
      · refine ⟨(hs'.2 p.1 ?_).trans (N p (.tail _ hp)).1, (N p (.tail _ hp)).2⟩
        rcases List.mem_cons.mp hp with rfl | hp
        · exact ne.2.2.symm
        · exact (off.mem p hp).2.1
    · exact hO
    · intro p hp
      rcases List.mem_cons.mp hp with rfl | hp
      · exact N3 _ (.tail _ (.tail _ (.head _)))
      · rcases List.mem_cons.mp hp with rfl | hp
        · exact N3 _ (.head _)
        · rcases List.mem_cons.mp hp with rfl | hp
          · exact N3 _ (.tail _ (.head _))
          · exact N3 _ (.tail _ (.tail _ (.tail _ hp)))
  have gI := (N3 (I, _) (.tail _ (.tail _ (.head _)))).1
  exact codeAny_compStart_set loop (wpAny_pyIter_tupleiter ⟨_, gI, rfl, rfl⟩ loop)
end
end Mine

theorem Mine.quietS4 : True := by
  w_top off
  trivial
namespace Mine
theorem owner_setit : Manifest.owners.lookup (String.ofList ['r', 'o', 't', 'a', 'r', 'e', 't', 'i', '_', 't', 'e', 's'].reverse) = some Manifest.sig_set_iterator := by kernel_rfl
theorem slot_setit_next : Slot "set_iterator" "__next__" "set_iterator.__next__" :=
  .of (owner := "set_iterator") (n := "__next__") (by rw [typeLookup_type, builtinLookup_eq_fast]; kernel_rfl) (by decide +kernel) (by decide +kernel) (by decide +kernel)
    (by first | exact .inl (by decide +kernel) | exact .inr (by decide +kernel)) (by rw [isSubtype_type]; kernel_rfl)
theorem args_setit_next_1 (a : Value) : argsOk "set_iterator.__next__" ⟨[a], []⟩ := by
  unfold argsOk; rw [signature?_of (id := "set_iterator.__next__") (n := ['_', '_', 't', 'x', 'e', 'n', '_', '_']) (o := ['r', 'o', 't', 'a', 'r', 'e', 't', 'i', '_', 't', 'e', 's']) (by kernel_rfl) owner_setit]; kernel_rfl
theorem entry_setit_next : entryFor table "set_iterator.__next__" = some Builtin.«set_iterator.__next__» := entryFor_of_tree (by kernel_rfl)
theorem entry_set_iter : entryFor table "set.__iter__" = some Builtin.«frozenset.__iter__» :=
  entryFor_alias (id' := "frozenset.__iter__") (by kernel_rfl) (by first | rfl | decide +kernel | (unfold String.splitOn; simp +decide [String.splitOnAux])) (by decide +kernel) (by kernel_rfl)
section
variable {prog : Program} {w : World} {A : Around} {E : Value → Shared → Prop} {s : Shared}
abbrev itO (D : Addr) (i : Int) (slot : Int) (ep : Nat) : Obj := { cls := .type "set_iterator", data := .fields #[.int slot 0, .int i 0, .ref D, .int 1 0, .int ep 0] }
theorem t1_not_drawn (b led : Bool) (x : Array (Int × Value)) : (!(t1 b led).plain && decide (x.size > 1)) = false := by rw [t1_plain]; rfl
theorem pyIter_set1 {D : Addr} {b : Bool} {ep : Nat} {Q : Value → Shared → Prop} (ho : s.heap.get? D = some (oneO b (ledW w) ep))
    (h : Q (.ref s.heap.objs.size) { s with heap := s.heap.push (itO D 0 0 ep) }) : wpAny (model prog w) A (pyIter (.ref D)) Q E s := by
  have hT : s.TypeIs (.ref D) "set" := ⟨_, ho, rfl⟩
  refine wpAny_pyIter_slot hT PySem.F.slot_set_iter (wpAny_call_entry PySem.F.slot_set_iter hT entry_set_iter ?_ (PySem.F.args_set_iter_1 _))
  unfold Builtin.«frozenset.__iter__»
  have hf := t1_fits b (ledW w)
  show wpAny _ _ (pure D >>= _) _ _ _
  refine wpAny_bind (wpAny_pure ?_)
  unfold Builtin.Frozenset.sizeOf
  refine wpAny_bind (wpAny_bind (wpAny_setEntries_of ho rfl hf (wpAny_pure ?_)))
  unfold setDrawn setsByText
  refine wpAny_bind (wpAny_bind (wpAny_setState_of ho rfl hf ?_))
  dsimp only
  refine wpAny_bind (wpAny_bind (wpAny_askSetting (wpAny_pure ?_)))
  show wpAny _ _ (pure (!(w.params.followText "set-order") && (!(t1 b (ledW w)).plain && decide (1 > 1)))) _ _ _
  rw [t1_plain]
  simp only [Bool.not_true, Bool.false_and, Bool.and_false]
  refine wpAny_pure ?_
  simp only [Bool.false_eq_true, if_false]
  refine wpAny_bind (wpAny_pure ?_)
  refine wpAny_bind (wpAny_setEpoch_of ho rfl hf ?_)
  exact wpAny_bind (wpAny_newObj_type (wpAny_pure ⟨_, rfl, "set_iterator", _, ⟨_, Heap.get?_push_size _ rfl, rfl⟩, slot_setit_next.lookup, h⟩))
def kOK (w : World) (b : Bool) (k : Nat) : Prop := w.params.followText "set-order" = true ∨ SetTable.below (t1 b true).place k = 1
theorem pyNext_set1 {D I : Addr} {b : Bool} {ep : Nat} {Q : Option Value → Shared → Prop} (ho : s.heap.get? D = some (oneO b (ledW w) ep)) (hi : s.heap.get? I = some (itO D 0 0 ep))
    (h : ∀ h' (k : Nat), kOK w b k → Heap.SameBut I s.heap h' → h'.get? I = some (itO D 1 k ep) → Q (some (.bool b)) { s with heap := h' }) : wpAny (model prog w) A (pyNext (.ref I)) Q E s := by
  have hT : s.TypeIs (.ref I) "set_iterator" := ⟨_, hi, rfl⟩
  have hf := t1_fits b (ledW w)
  unfold pyNext
  refine wpAny_bind (wpAny_attempt (wpAny_callSpecial?_slot (name := Str.ofString "__next__") hT slot_setit_next
    (wpAny_call_entry slot_setit_next hT entry_setit_next ?_ (args_setit_next_1 _))))
  unfold Builtin.«set_iterator.__next__»
  show wpAny _ _ (fieldsOf (.ref I) >>= _) _ _ _
  unfold fieldsOf
  refine wpAny_bind (wpAny_bind (wpAny_load hi (wpAny_pure ?_)))
  show wpAny _ _ (setEntries D >>= _) _ _ _
  refine wpAny_bind (wpAny_setEntries_of ho rfl hf ?_)
  have e1 : ((((#[(hB b, Value.bool b)] : Array (Int × Value)).size : Nat) : Int) != 1) = false := rfl
  dsimp only
  rw [if_neg (by rw [e1]; exact Bool.false_ne_true)]
  show wpAny _ _ (setNext D 0 0 ep >>= _) _ _ _
  have key : ∀ (Q' : Option (Value × Nat) → Shared → Prop) (E' : Value → Shared → Prop), (∀ k, kOK w b k → Q' (some (.bool b, k)) s) → wpAny (model prog w) A.in1 (setNext D 0 0 ep) Q' E' s := by
    intro Q' E' hq
    unfold setNext setsByText
    refine wpAny_bind (wpAny_setState_of ho rfl hf ?_)
    dsimp only
    refine wpAny_bind (wpAny_bind (wpAny_askSetting (wpAny_pure ?_)))
    show wpAny _ _ (if w.params.followText "set-order" = true then _ else _) _ _ _
    by_cases hb : w.params.followText "set-order" = true
    · rw [if_pos hb, if_neg (by simp)]
      unfold setWalk setsByText
      refine wpAny_bind (wpAny_bind (wpAny_setState_of ho rfl hf ?_))
      dsimp only
      refine wpAny_bind (wpAny_bind (wpAny_askSetting (wpAny_pure ?_)))
      show wpAny _ _ (if w.params.followText "set-order" = true then _ else _) _ _ _
      rw [if_pos hb]
      refine wpAny_bind (wpAny_askSetting (wpAny_pure (wpAny_pure ?_)))
      have e2 : ∀ f : Nat → Nat, pickOrder f #[(hB b, Value.bool b)] = #[(hB b, Value.bool b)] := by intro f; simp [pickOrder, pickOrder.go, Nat.mod_one]
      rw [e2]; exact hq _ (.inl hb)
    · rw [if_neg hb]
      show wpAny _ _ (if (!(t1 b (ledW w)).plain && decide (1 > 1)) = true then _ else _) _ _ _
      rw [t1_plain, if_neg (by simp)]
      have hl : ledW w = true := by unfold ledW; simp [hb]
      refine wpAny_bind ?_
      show wpAny _ _ (if (!(t1 b (ledW w)).led && !(#[(hB b, Value.bool b)] : Array (Int × Value)).isEmpty) = true then _ else _) _ _ _
      rw [t1_led, hl, if_neg (by simp)]
      refine wpAny_pure (wpAny_pure ?_)
      cases b
      · exact hq _ (.inr (by decide +kernel))
      · exact hq _ (.inr (by decide +kernel))
  refine wpAny_bind (key _ _ fun k hk => ?_)
  dsimp only
  refine wpAny_bind (wpAny_setField_rec hi (by simp) fun h1 g1 s1 => ?_)
  refine wpAny_bind (wpAny_setField_rec g1 (by simp) fun h2 g2 s2 => ?_)
  exact wpAny_pure ⟨_, rfl, wpAny_pure (h h2 k hk (s1.trans s2) g2)⟩
theorem pyNext_set1_end {D I : Addr} {b : Bool} {ep k : Nat} {Q : Option Value → Shared → Prop} (hh : A.handled = none) (ho : s.heap.get? D = some (oneO b (ledW w) ep)) (hi : s.heap.get? I = some (itO D 1 k ep)) (hk : kOK w b k)
    (h : ∀ h', Heap.ExtBut I s.heap h' → Q none { s with heap := h' }) : wpAny (model prog w) A (pyNext (.ref I)) Q E s := by
  have hT : s.TypeIs (.ref I) "set_iterator" := ⟨_, hi, rfl⟩
  have hf := t1_fits b (ledW w)
  unfold pyNext
  refine wpAny_bind (wpAny_attempt (wpAny_callSpecial?_slot (name := Str.ofString "__next__") hT slot_setit_next
    (wpAny_call_entry slot_setit_next hT entry_setit_next ?_ (args_setit_next_1 _))))
  unfold Builtin.«set_iterator.__next__»
  show wpAny _ _ (fieldsOf (.ref I) >>= _) _ _ _
  unfold fieldsOf
  refine wpAny_bind (wpAny_bind (wpAny_load hi (wpAny_pure ?_)))
  show wpAny _ _ (setEntries D >>= _) _ _ _
  refine wpAny_bind (wpAny_setEntries_of ho rfl hf ?_)
  have e1 : ((((#[(hB b, Value.bool b)] : Array (Int × Value)).size : Nat) : Int) != 1) = false := rfl
  dsimp only
  rw [if_neg (by rw [e1]; exact Bool.false_ne_true)]
  show wpAny _ _ (setNext D k 1 ep >>= _) _ _ _
  have key : ∀ (Q' : Option (Value × Nat) → Shared → Prop) (E' : Value → Shared → Prop), Q' none s → wpAny (model prog w) A.in1 (setNext D k 1 ep) Q' E' s := by
    intro Q' E' hq
    unfold setNext setsByText
    refine wpAny_bind (wpAny_setState_of ho rfl hf ?_)
    dsimp only
    refine wpAny_bind (wpAny_bind (wpAny_askSetting (wpAny_pure ?_)))
    show wpAny _ _ (if w.params.followText "set-order" = true then _ else _) _ _ _
    by_cases hb : w.params.followText "set-order" = true
    · rw [if_pos hb, if_neg (by simp)]
      unfold setWalk setsByText
      refine wpAny_bind (wpAny_bind (wpAny_setState_of ho rfl hf ?_))
      dsimp only
      refine wpAny_bind (wpAny_bind (wpAny_askSetting (wpAny_pure ?_)))
      show wpAny _ _ (if w.params.followText "set-order" = true then _ else _) _ _ _
      rw [if_pos hb]
      refine wpAny_bind (wpAny_askSetting (wpAny_pure (wpAny_pure ?_)))
      have e2 : ∀ f : Nat → Nat, pickOrder f #[(hB b, Value.bool b)] = #[(hB b, Value.bool b)] := by intro f; simp [pickOrder, pickOrder.go, Nat.mod_one]
      rw [e2]; exact hq
    · rw [if_neg hb]
      show wpAny _ _ (if (!(t1 b (ledW w)).plain && decide (1 > 1)) = true then _ else _) _ _ _
      rw [t1_plain, if_neg (by simp)]
      have hl : ledW w = true := by unfold ledW; simp [hb]
      have hk2 : SetTable.below (t1 b true).place k = 1 := hk.resolve_left hb
      refine wpAny_bind ?_
      show wpAny _ _ (if (!(t1 b (ledW w)).led && !(#[(hB b, Value.bool b)] : Array (Int × Value)).isEmpty) = true then _ else _) _ _ _
      rw [t1_led, hl, if_neg (by simp)]
      refine wpAny_pure (wpAny_pure ?_)
      rw [hk2]
      exact hq
  refine wpAny_bind (key _ _ ?_)
  dsimp only
  refine wpAny_bind (wpAny_setField_rec hi (by simp) fun h1 g1 s1 => ?_)
  show wpAny _ _ (newExc (.type "StopIteration") [] >>= _) _ _ _
  refine wpAny_bind ?_
  simp only [newExc, newTuple]
  refine wpAny_bind (wpAny_newObj_type ?_ (by size_fits))
  refine wpAny_bind (m := firstArgMember _ _) (wpAny_of_eq (a := Value.none) (by first | rfl | (simp only [firstArgMember]; rfl)) ?_)
  refine wpAny_newObj_type ?_ (by size_fits)
  simp only [raiseNew]
  refine wpAny_bind (wpAny_handled ?_)
  first | rw [show A.in1.handled = none from hh] | rw [hh]
  refine wpAny_bind (wpAny_pure (wpAny_throw ?_))
  refine wpAny_bind (wpAny_isInstance (T := "StopIteration") (b := true) ⟨_, Heap.get?_push_size _ rfl, rfl⟩ isSubtype_stop ?_)
  exact wpAny_pure (h _ ((s1.extBut.push _).push _))
theorem unpack_set1 {D L : Addr} {b : Bool} {ep : Nat} {h₀ : Heap} {m : Str → Option Value} {news : Led} {Q : List Value → Shared → Prop} (hh : A.handled = none) (F : Fr h₀ L s.heap m) (N : News h₀ L s.heap news) (ho : s.heap.get? D = some (oneO b (ledW w) ep))
    (h : ∀ h', Fr h₀ L h' m → News h₀ L h' news → Q [.bool b] { s with heap := h' }) : wpAny (model prog w) A (unpackItems (.ref D) 1 none) Q E s := by
  have hT : s.TypeIs (.ref D) "set" := ⟨_, ho, rfl⟩
  have hlt : D ≠ s.heap.objs.size := Nat.ne_of_lt (Heap.lt_size ho)
  unfold unpackItems
  refine wpAny_bind ?_
  unfold notIterableAtAll
  refine wpAny_bind (wpAny_specialOf hT PySem.F.slot_set_iter.lookup ?_)
  refine wpAny_pure ?_
  simp only [Bool.false_eq_true, if_false]
  have F1 := F.push (itO D 0 0 ep)
  have N1 := News.push F N (itO D 0 0 ep) rfl
  have nI := (N1 _ (.head _)).2
  refine wpAny_bind (wpAny_holding (pyIter_set1 ho ?_))
  (try dsimp only)
  refine wpAny_bind (wpAny_holding ?_)
  show wpAny _ _ (pyNext (.ref s.heap.objs.size) >>= _) _ _ _
  refine wpAny_bind (pyNext_set1 (b := b) (D := D) (ep := ep) (Heap.get?_push_of_some _ ho) (Heap.get?_push_size _ rfl) fun h1 k hk s1 g1 => ?_)
  (try dsimp only)
  refine wpAny_bind (wpAny_holding (wpAny_pure (wpAny_pure ?_)))
  rw [if_neg (by simp)]
  have ho1 : h1.get? D = some (oneO b (ledW w) ep) := (s1.2 D hlt).trans (Heap.get?_push_of_some _ ho)
  have F2 := Fr.change F1 s1 nI.1 nI.2
  have N2 := News.setHead N1 (fun p hp => Nat.ne_of_lt (Heap.lt_size (N p hp).1)) s1 g1
  refine wpAny_bind (wpAny_holding (pyNext_set1_end (b := b) (D := D) (ep := ep) (k := k) hh ho1 g1 hk fun h2 s2 => ?_))
  have hk2 : ∀ b o, b ∉ [s.heap.objs.size] → h1.get? b = some o → h2.get? b = some o := fun b o hb x => s2 b o (fun e => hb (e ▸ .head _)) x
  (try dsimp only)
  exact wpAny_pure (h _ (LCg.fr_but F2 hk2 nI.1.symm nI.2) (LCg.news_but (fun p hp => N2 p (.tail _ hp)) hk2 fun p hp => Nat.ne_of_lt (Heap.lt_size (N p hp).1)))
theorem assign_set1 {D L : Addr} {b : Bool} {i : Nat} {oD : Obj} {h₀ : Heap} {m : Str → Option Value} {news : Led} {env : Env} {elt : Expr} {k : Nat} {pos : Pos} {Q : Unit → Shared → Prop} (hh : A.handled = none) (F : Fr h₀ L s.heap m) (N : News h₀ L s.heap news) (ho : (D, oD) ∈ news) (hb : SB b (ledW w) (i + 1) oD)
    (hn : (assignEach [elt] env).length = 1) (hstar : (assignEach [elt] env).findIdx? (·.1) = none)
    (h : ∀ h', Fr h₀ L h' m → News h₀ L h' news → wpAny (model prog w) A (assignInOrder ((assignEach [elt] env).map (·.2)) [.bool b]) Q E { s with heap := h' }) :
    wpAny (model prog w) A (assign (.Tuple [elt] k pos) env (.ref D)) Q E s := by
  obtain ⟨ep, rfl⟩ := hb
  rw [assign_Tuple]
  refine wpAny_bind (wpAny_standAt ?_)
  unfold unpack
  rw [hn, hstar]
  exact wpAny_bind (wpAny_holding (unpack_set1 hh F N (N _ ho).1 h))
end
end Mine

theorem Mine.quietS5 : True := by
  w_top off
  trivial
namespace Mine
section
variable {prog : Program} {w : World} {A : Around} {E : Value → Shared → Prop} {h₀ : Heap} {L : Addr} {m : Str → Option Value} {news : Led}
open PySem.W

theorem min_loop {l I S : Addr} {v0 : Value} {vs : List Value} {n c : Nat} {s : Shared} {R : Result → Shared → Prop} (hh : A.handled = none) (hl : (l, PySem.W.listOf (v0 :: vs).toArray n) ∈ news) (hlI : l ≠ I) (hSI : S ≠ I) (hnS : ∀ p ∈ news, p.1 ≠ S) (hnI : ∀ p ∈ news, p.1 ≠ I)
    (cmp : ∀ v ∈ vs, ∀ (s' : Shared) (Q' E' : Value → Shared → Prop), Fr h₀ L s'.heap m → News h₀ L s'.heap news → Q' (.bool false) s' → wpAny (model prog w) A.in1 (richCompare .Lt v v0) Q' E' s')
    (hR : ∀ h' tk', Fr h₀ L h' m → News h₀ L h' news → R (.ok (.ret v0)) { s with heap := h', toks := tk' }) :
    ∀ (r j : Nat) (h : Heap) (tk : Nat) (oI : Obj), r + j = vs.length → Fr h₀ L h m → News h₀ L h (news ++ [(S, seqObj "list" #[v0, v0] c), (I, oI)]) → h.IsListIter I l (j + 1) →
      codeAny (model prog w) A (.builtin "min.loop" ⟨[.ref I, .none, .ref S], []⟩) R { s with heap := h, toks := tk } := by
  have hname : (toString "min" ++ toString ".loop" : String) = "min.loop" := by decide
  have W := Walks.list (prog := prog) (w := w) (A := A.in1) hh I l hlI (v0 :: vs).toArray
  have hsz : (v0 :: vs).toArray.size = vs.length + 1 := by simp
  intro r
  induction r with
  | zero =>
    intro j h tk oI hr F N hit
    have nS := N (S, seqObj "list" #[v0, v0] c) (List.mem_append_right _ (.head _))
    have nI := N (I, oI) (List.mem_append_right _ (.tail _ (.head _)))
    have Nn : News h₀ L h news := fun p hp => N p (List.mem_append_left _ hp)
    refine codeAny_builtin PySem.F.entry_min_loop ?_
    rw [Around.under_plainId PySem.F.plain_min_loop _]
    show wpAny _ A.in1 (seqItems? (.ref S) >>= _) _ _ _
    refine wpAny_bind (wpAny_seqItems nS.1 rfl ?_)
    show wpAny _ A.in1 (tryCatch (pyNext (.ref I)) _ >>= _) _ _ _
    refine wpAny_bind (wpAny_tryCatch (W.done _ _ _ ⟨by rw [hsz, show vs.length + 1 = j + 1 by omega]; exact hit, ⟨_, (Nn _ hl).1, rfl, _, rfl⟩⟩ fun h' tk' hk' => ?_))
    have F1 := kmb_fr F hk' nI.2.1 nI.2.2
    have N1 := kmb_news Nn hk' hnI
    have hS' := hk' S _ (by simpa using hSI) nS.1
    have s1 := Heap.SameBut.update h' S (Obj.mapSeq fun _ => (#[] : Array Value))
    show wpAny _ A.in1 (updateSeq S (fun _ => #[]) >>= _) _ _ _
    refine wpAny_bind ?_
    refine wpAny_updateSeq hS' rfl (wpAny_bind (wpAny_letGo (wpAny_pure ?_)))
    exact hR _ _ (ksk_fr F1 s1 nS.2.1 nS.2.2) (ksk_news N1 s1 hnS)
  | succ r ih =>
    intro j h tk oI hr F N hit
    have nS := N (S, seqObj "list" #[v0, v0] c) (List.mem_append_right _ (.head _))
    have nI := N (I, oI) (List.mem_append_right _ (.tail _ (.head _)))
    have Nn : News h₀ L h news := fun p hp => N p (List.mem_append_left _ hp)
    refine codeAny_builtin PySem.F.entry_min_loop ?_
    rw [Around.under_plainId PySem.F.plain_min_loop _]
    show wpAny _ A.in1 (seqItems? (.ref S) >>= _) _ _ _
    refine wpAny_bind (wpAny_seqItems nS.1 rfl ?_)
    show wpAny _ A.in1 (tryCatch (pyNext (.ref I)) _ >>= _) _ _ _
    refine wpAny_bind (wpAny_tryCatch (W.item (j + 1) _ _ _ (by rw [hsz]; omega) ⟨hit, ⟨_, (Nn _ hl).1, rfl, _, rfl⟩⟩ fun v h' tk' hP hst' hk' => ?_))
    have hv : vs[j]? = some v := by simpa using hP
    obtain ⟨oI', hoI', hoc, hod⟩ := id hst'.1
    have F1 := kmb_fr F hk' nI.2.1 nI.2.2
    have N0 := kmb_news Nn hk' hnI
    have N1 : News h₀ L h' (news ++ [(S, seqObj "list" #[v0, v0] c), (I, oI')]) := fun p hp => by
      rcases List.mem_append.mp hp with hp | hp
      · exact N0 p hp
      · rcases List.mem_cons.mp hp with rfl | hp
        · exact ⟨hk' S _ (by simpa using hSI) nS.1, nS.2⟩
        · rw [List.mem_singleton.mp hp]
          exact ⟨hoI', nI.2⟩
    show wpAny _ A.in1 (pure v >>= _) _ _ _
    refine wpAny_bind (wpAny_pure ?_)
    show wpAny _ A.in1 (tryCatch (holding [v, v] (richCompare .Lt v v0 >>= _)) _ >>= _) _ _ _
    refine wpAny_bind (wpAny_tryCatch (wpAny_holding (wpAny_bind (cmp v (List.mem_of_getElem? hv) _ _ _ F1 N0 ?_))))
    refine wpAny_bind (wpAny_holding (wpAny_truthy_bool ?_))
    refine wpAny_bind (wpAny_letGo (wpAny_pure ?_))
    simp only [Bool.false_eq_true, if_false]
    refine wpAny_bind (wpAny_letGo ?_)
    rw [hname]
    exact wpAny_pure ⟨plainId_quiet PySem.F.plain_min_loop _, ih (j + 1) _ _ oI' (by omega) F1 N1 ⟨oI', hoI', hoc, hod⟩⟩
theorem min_first {l : Addr} {v0 : Value} {vs : List Value} {n : Nat} {s : Shared} {Q : Value → Shared → Prop} (hh : A.handled = none) (F : Fr h₀ L s.heap m) (N : News h₀ L s.heap news) (hl : (l, PySem.W.listOf (v0 :: vs).toArray n) ∈ news)
    (cmp : ∀ v ∈ vs, ∀ (s' : Shared) (Q' E' : Value → Shared → Prop), Fr h₀ L s'.heap m → News h₀ L s'.heap news → Q' (.bool false) s' → wpAny (model prog w) A.in1 (richCompare .Lt v v0) Q' E' s')
    (hQ : ∀ h' tk', Fr h₀ L h' m → News h₀ L h' news → Q v0 { s with heap := h', toks := tk' }) :
    wpAny (model prog w) A (call (.builtin "min") [.ref l]) Q E s := by
  have hname : (toString "min" ++ toString ".loop" : String) = "min.loop" := by decide
  have hls : s.heap.IsList l (v0 :: vs).toArray := ⟨_, (N _ hl).1, rfl, _, rfl⟩
  have hll : l < s.heap.objs.size := Heap.lt_size (N _ hl).1
  refine call_function_tree PySem.F.kind_min PySem.F.plain_min PySem.F.entry_min (PySem.F.args_min1 _) ?_
  show wpAny _ A.in1 (Builtin.Builtins.bindParams "min" ["key", "default"] 0 ⟨[], []⟩ >>= _) _ _ s
  refine wpAny_bind (wpAny_of_eq (show Builtin.Builtins.bindParams "min" ["key", "default"] 0 ⟨[], []⟩ = pure [none, none] from rfl) ?_)
  refine wpAny_bind (wpAny_pure ?_)
  refine wpAny_bind (wpAny_pyIter_list hls ?_)
  refine wpAny_bind (wpAny_newList ?_ (Nat.zero_le _))
  rw [hname]
  have hlI : l ≠ s.heap.objs.size := Nat.ne_of_lt hll
  have hnI : ∀ p ∈ news, p.1 ≠ s.heap.objs.size := fun p hp => Nat.ne_of_lt (Heap.lt_size (N p hp).1)
  have F1 := F.push ({ cls := .type "list_iterator", data := .fields #[.ref l, .int 0 0] } : Obj)
  have N1 := News.push F N ({ cls := .type "list_iterator", data := .fields #[.ref l, .int 0 0] } : Obj) rfl
  have hS : (s.heap.push { cls := .type "list_iterator", data := .fields #[.ref l, .int 0 0] }).objs.size = s.heap.objs.size + 1 := size_push' ..
  have F2 := F1.push (seqObj "list" #[] 0)
  have N2 := News.push F1 N1 (seqObj "list" #[] 0) rfl
  have hSI : (s.heap.push { cls := .type "list_iterator", data := .fields #[.ref l, .int 0 0] }).objs.size ≠ s.heap.objs.size := by rw [hS]; exact Nat.ne_of_gt (Nat.lt_succ_self _)
  have hnS : ∀ p ∈ news, p.1 ≠ (s.heap.push { cls := .type "list_iterator", data := .fields #[.ref l, .int 0 0] }).objs.size := fun p hp => by rw [hS]; exact Nat.ne_of_lt (Nat.lt_succ_of_lt (Heap.lt_size (N p hp).1))
  refine wpAny_pure ⟨plainId_quiet PySem.F.plain_min_loop _, ?_⟩
  generalize (s.heap.push { cls := .type "list_iterator", data := .fields #[.ref l, .int 0 0] }).objs.size = S at F2 N2 hSI hnS ⊢
  have F2' : Fr h₀ L ((s.heap.push { cls := .type "list_iterator", data := .fields #[.ref l, .int 0 0] }).push (seqObj "list" #[] 0)) m := F2
  generalize hG : ((s.heap.push { cls := .type "list_iterator", data := .fields #[.ref l, .int 0 0] }).push (seqObj "list" #[] 0)) = H at F2' N2
  have W := Walks.list (prog := prog) (w := w) (A := A.in1) hh s.heap.objs.size l hlI (v0 :: vs).toArray
  have hsz : (v0 :: vs).toArray.size = vs.length + 1 := by simp
  have gS := N2 (S, seqObj "list" #[] 0) (.head _)
  have gI := N2 (s.heap.objs.size, _) (.tail _ (.head _))
  have Nn : News h₀ L H news := fun p hp => N2 p (.tail _ (.tail _ hp))
  refine codeAny_builtin PySem.F.entry_min_loop ?_
  rw [Around.under_plainId PySem.F.plain_min_loop _]
  show wpAny _ A.in1 (seqItems? (.ref S) >>= _) _ _ _
  refine wpAny_bind (wpAny_seqItems gS.1 rfl ?_)
  show wpAny _ A.in1 (tryCatch (pyNext (.ref s.heap.objs.size)) _ >>= _) _ _ _
  refine wpAny_bind (wpAny_tryCatch (W.item 0 _ _ _ (by rw [hsz]; omega) ⟨⟨_, gI.1, rfl, rfl⟩, ⟨_, (Nn _ hl).1, rfl, _, rfl⟩⟩ fun v h' tk' hP hst' hk' => ?_))
  obtain rfl : v = v0 := by simpa using hP.symm
  obtain ⟨oI', hoI', hoc, hod⟩ := id hst'.1
  have F3 := kmb_fr F2' hk' gI.2.1 gI.2.2
  have N3 := kmb_news Nn hk' hnI
  have hS' := hk' S _ (by simpa using hSI) gS.1
  show wpAny _ A.in1 (pure v >>= _) _ _ _
  refine wpAny_bind (wpAny_pure ?_)
  have s1 := Heap.SameBut.update h' S (Obj.mapSeq fun _ => #[v, v])
  obtain ⟨c2, hc2⟩ : ∃ c2, (h'.update S (Obj.mapSeq fun _ => #[v, v])).get? S = some (seqObj "list" #[v, v] c2) := ⟨_, get?_update_seq hS' fun _ => #[v, v]⟩
  show wpAny _ A.in1 (updateSeq S (fun _ => #[v, v]) >>= _) _ _ _
  refine wpAny_bind ?_
  refine wpAny_updateSeq hS' rfl ?_
  rw [hname]
  refine wpAny_pure ⟨plainId_quiet PySem.F.plain_min_loop _, min_loop (s := s) (n := n) (c := c2) hh hl hlI hSI hnS hnI cmp hQ vs.length 0 _ _ oI' (by omega) (ksk_fr F3 s1 gS.2.1 gS.2.2) (fun p hp => ?_) ⟨oI', (s1.2 _ hSI.symm).trans hoI', hoc, hod⟩⟩
  rcases List.mem_append.mp hp with hp | hp
  · exact ksk_news N3 s1 hnS p hp
  · rcases List.mem_cons.mp hp with rfl | hp
    · exact ⟨hc2, gS.2⟩
    · rw [List.mem_singleton.mp hp]
      exact ⟨(s1.2 _ hSI.symm).trans hoI', gI.2⟩

theorem min_cmp_loop (l b : Addr) (items items2 : Array Value) (n n2 : Nat) (hsz : items.size = items2.size) (k : Nat) :
    ∀ i : Nat, items.size - i = k → Meets (Builtin.«list.__eq__.loop» ⟨[.ref l, .ref b, rawInt i, rawInt 0], []⟩)
      (fun A R s => s.heap.get? l = some (PySem.W.listOf items n) ∧ s.heap.get? b = some (PySem.W.listOf items2 n2) ∧
        (∀ j (h1 : j < items.size) (h2 : j < items2.size), PySem.SeqAt.EqAt A.in1 s items[j] items2[j] true) ∧
        R (.ok (.ret (.bool false))) s) := by
  induction k with
  | zero =>
    intro i hk prog w A R s h
    obtain ⟨hp, g, d, tk, os⟩ := s; obtain ⟨hl, hb, he, h⟩ := h
    wp_walk using PySem.AutoSeq1.wpAny_loadPart' hl, PySem.AutoSeq1.wpAny_loadPart' hb
    have hi1 : items[((i : Nat) : Int).toNat]? = none := by simp; omega
    have hi2 : items2[((i : Nat) : Int).toNat]? = none := by simp; omega
    rw [hi1, hi2]
    wp_walk using PySem.AutoSeq1.wpAny_loadPart' hl, PySem.AutoSeq1.wpAny_loadPart' hb
    show R (.ok (.ret (.bool (decide (items.size < items2.size))))) _
    rw [hsz]
    simpa using h
  | succ k ih =>
    intro i hk prog w A R s h
    obtain ⟨hp, g, d, tk, os⟩ := s; obtain ⟨hl, hb, he, h⟩ := h
    wp_walk using PySem.AutoSeq1.wpAny_loadPart' hl, PySem.AutoSeq1.wpAny_loadPart' hb
    have hlt : i < items.size := by omega
    have hlt2 : i < items2.size := by omega
    have hi1 : items[((i : Nat) : Int).toNat]? = some items[i] := by simp [hlt]
    have hi2 : items2[((i : Nat) : Int).toNat]? = some items2[i] := by simp [hlt2]
    have hc : ((i : Int) + 1) = ((i + 1 : Nat) : Int) := by push_cast; rfl
    rw [hi1, hi2]
    refine wpAny_bind (he i hlt hlt2 prog w _ _ ?_)
    wp_walk
    rw [hc]
    exact ⟨plainId_quiet PySem.MeetsSeq3.plain_eq_loop _, codeAny_builtin PySem.MeetsSeq3.entry_eq_loop (by
      rw [Around.under_plainId PySem.MeetsSeq3.plain_eq_loop _]
      exact ih (i + 1) (by omega) prog w A R _ ⟨hl, hb, he, h⟩)⟩
theorem min_cmp (l b : Addr) (items items2 : Array Value) (n n2 : Nat) (hsz : items.size = items2.size) :
    Meets (Builtin.«list.__lt__» ⟨[.ref l, .ref b], []⟩)
      (fun A R s => s.heap.get? l = some (PySem.W.listOf items n) ∧ s.heap.get? b = some (PySem.W.listOf items2 n2) ∧
        (∀ j (h1 : j < items.size) (h2 : j < items2.size), PySem.SeqAt.EqAt A.in1 s items[j] items2[j] true) ∧
        R (.ok (.ret (.bool false))) s) := by
  intro prog w A R s h
  obtain ⟨hp, g, d, tk, os⟩ := s; obtain ⟨hl, hb, he, h⟩ := h
  have f3 := PySem.AutoSeq1.sub_list_list
  wp_walk using PySem.AutoSeq1.wpAny_loadPart' hl, PySem.AutoSeq1.wpAny_loadPart' hb
  exact ⟨plainId_quiet PySem.MeetsSeq3.plain_eq_loop _, codeAny_builtin PySem.MeetsSeq3.entry_eq_loop (by
    rw [Around.under_plainId PySem.MeetsSeq3.plain_eq_loop _]
    exact min_cmp_loop l b items items2 n n2 hsz _ 0 rfl prog w A R _ ⟨hl, hb, he, h⟩)⟩
theorem min_lists {a b : Addr} {va vb : List Value} {xs : List Str} {k1 k2 : Nat} {s : Shared} {Q : Value → Shared → Prop} (N : News h₀ L s.heap news) (ma : (a, PySem.W.listOf va.toArray k1) ∈ news) (mb : (b, PySem.W.listOf vb.toArray k2) ∈ news) (ha : StrsAre va xs) (hb : StrsAre vb xs)
    (hu : A.units < cLine) (h : Q (.bool false) s) : wpAny (model prog w) A (richCompare .Lt (.ref a) (.ref b)) Q E s := by
  have hsz : va.toArray.size = vb.toArray.size := by rw [List.size_toArray, List.size_toArray, ha.length, hb.length]
  refine richCompare_meets_room (op := .Lt) ⟨_, (N _ ma).1, rfl⟩ ⟨_, (N _ mb).1, rfl⟩ PySem.F.slot_list_lt PySem.F.entry_list_lt (PySem.F.args_list_lt_2 _ _) (min_cmp a b va.toArray vb.toArray k1 k2 hsz) ⟨(N _ ma).1, (N _ mb).1, ?_, ?_⟩ hu
  · intro j h1 h2
    have h1' : j < xs.length := by rw [← ha.length]; simpa using h1
    obtain ⟨t1, e1⟩ := ha.get j xs[j] (List.getElem?_eq_getElem h1')
    obtain ⟨t2, e2⟩ := hb.get j xs[j] (List.getElem?_eq_getElem h1')
    have g1 : va.toArray[j] = .str xs[j] t1 := by
      have h3 : j < va.length := by simpa using h1
      rw [List.getElem?_eq_getElem h3] at e1
      simpa using Option.some.inj e1
    have g2 : vb.toArray[j] = .str xs[j] t2 := by
      have h3 : j < vb.length := by simpa using h2
      rw [List.getElem?_eq_getElem h3] at e2
      simpa using Option.some.inj e2
    rw [g1, g2]
    have := PySem.SeqAt.EqAt.str_str (A := A.in1) (s := s) xs[j] t1 xs[j] t2
    rwa [beq_self_eq_true] at this
  · exact ⟨(fun e => by cases e), h⟩

theorem max_loop {l I S : Addr} {v0 : Value} {vs : List Value} {n c : Nat} {s : Shared} {R : Result → Shared → Prop} (hh : A.handled = none) (hl : (l, PySem.W.listOf (v0 :: vs).toArray n) ∈ news) (hlI : l ≠ I) (hSI : S ≠ I) (hnS : ∀ p ∈ news, p.1 ≠ S) (hnI : ∀ p ∈ news, p.1 ≠ I)
    (cmp : ∀ v ∈ vs, ∀ (s' : Shared) (Q' E' : Value → Shared → Prop), Fr h₀ L s'.heap m → News h₀ L s'.heap news → Q' (.bool false) s' → wpAny (model prog w) A.in1 (richCompare .Gt v v0) Q' E' s')
    (hR : ∀ h' tk', Fr h₀ L h' m → News h₀ L h' news → R (.ok (.ret v0)) { s with heap := h', toks := tk' }) :
    ∀ (r j : Nat) (h : Heap) (tk : Nat) (oI : Obj), r + j = vs.length → Fr h₀ L h m → News h₀ L h (news ++ [(S, seqObj "list" #[v0, v0] c), (I, oI)]) → h.IsListIter I l (j + 1) →
      codeAny (model prog w) A (.builtin "max.loop" ⟨[.ref I, .none, .ref S], []⟩) R { s with heap := h, toks := tk } := by
  have hname : (toString "max" ++ toString ".loop" : String) = "max.loop" := by decide
  have W := Walks.list (prog := prog) (w := w) (A := A.in1) hh I l hlI (v0 :: vs).toArray
  have hsz : (v0 :: vs).toArray.size = vs.length + 1 := by simp
  intro r
  induction r with
  | zero =>
    intro j h tk oI hr F N hit
    have nS := N (S, seqObj "list" #[v0, v0] c) (List.mem_append_right _ (.head _))
    have nI := N (I, oI) (List.mem_append_right _ (.tail _ (.head _)))
    have Nn : News h₀ L h news := fun p hp => N p (List.mem_append_left _ hp)
    refine codeAny_builtin PySem.F.entry_max_loop ?_
    rw [Around.under_plainId PySem.F.plain_max_loop _]
    show wpAny _ A.in1 (seqItems? (.ref S) >>= _) _ _ _
    refine wpAny_bind (wpAny_seqItems nS.1 rfl ?_)
    show wpAny _ A.in1 (tryCatch (pyNext (.ref I)) _ >>= _) _ _ _
    refine wpAny_bind (wpAny_tryCatch (W.done _ _ _ ⟨by rw [hsz, show vs.length + 1 = j + 1 by omega]; exact hit, ⟨_, (Nn _ hl).1, rfl, _, rfl⟩⟩ fun h' tk' hk' => ?_))
    have F1 := kmb_fr F hk' nI.2.1 nI.2.2
    have N1 := kmb_news Nn hk' hnI
    have hS' := hk' S _ (by simpa using hSI) nS.1
    have s1 := Heap.SameBut.update h' S (Obj.mapSeq fun _ => (#[] : Array Value))
    show wpAny _ A.in1 (updateSeq S (fun _ => #[]) >>= _) _ _ _
    refine wpAny_bind ?_
    refine wpAny_updateSeq hS' rfl (wpAny_bind (wpAny_letGo (wpAny_pure ?_)))
    exact hR _ _ (ksk_fr F1 s1 nS.2.1 nS.2.2) (ksk_news N1 s1 hnS)
  | succ r ih =>
    intro j h tk oI hr F N hit
    have nS := N (S, seqObj "list" #[v0, v0] c) (List.mem_append_right _ (.head _))
    have nI := N (I, oI) (List.mem_append_right _ (.tail _ (.head _)))
    have Nn : News h₀ L h news := fun p hp => N p (List.mem_append_left _ hp)
    refine codeAny_builtin PySem.F.entry_max_loop ?_
    rw [Around.under_plainId PySem.F.plain_max_loop _]
    show wpAny _ A.in1 (seqItems? (.ref S) >>= _) _ _ _
    refine wpAny_bind (wpAny_seqItems nS.1 rfl ?_)
    show wpAny _ A.in1 (tryCatch (pyNext (.ref I)) _ >>= _) _ _ _
    refine wpAny_bind (wpAny_tryCatch (W.item (j + 1) _ _ _ (by rw [hsz]; omega) ⟨hit, ⟨_, (Nn _ hl).1, rfl, _, rfl⟩⟩ fun v h' tk' hP hst' hk' => ?_))
    have hv : vs[j]? = some v := by simpa using hP
    obtain ⟨oI', hoI', hoc, hod⟩ := id hst'.1
    have F1 := kmb_fr F hk' nI.2.1 nI.2.2
    have N0 := kmb_news Nn hk' hnI
    have N1 : News h₀ L h' (news ++ [(S, seqObj "list" #[v0, v0] c), (I, oI')]) := fun p hp => by
      rcases List.mem_append.mp hp with hp | hp
      · exact N0 p hp
      · rcases List.mem_cons.mp hp with rfl | hp
        · exact ⟨hk' S _ (by simpa using hSI) nS.1, nS.2⟩
        · rw [List.mem_singleton.mp hp]
          exact ⟨hoI', nI.2⟩
    show wpAny _ A.in1 (pure v >>= _) _ _ _
    refine wpAny_bind (wpAny_pure ?_)
    show wpAny _ A.in1 (tryCatch (holding [v, v] (richCompare .Gt v v0 >>= _)) _ >>= _) _ _ _
    refine wpAny_bind (wpAny_tryCatch (wpAny_holding (wpAny_bind (cmp v (List.mem_of_getElem? hv) _ _ _ F1 N0 ?_))))
    refine wpAny_bind (wpAny_holding (wpAny_truthy_bool ?_))
    refine wpAny_bind (wpAny_letGo (wpAny_pure ?_))
    simp only [Bool.false_eq_true, if_false]
    refine wpAny_bind (wpAny_letGo ?_)
    rw [hname]
    exact wpAny_pure ⟨plainId_quiet PySem.F.plain_max_loop _, ih (j + 1) _ _ oI' (by omega) F1 N1 ⟨oI', hoI', hoc, hod⟩⟩
theorem max_first {l : Addr} {v0 : Value} {vs : List Value} {n : Nat} {s : Shared} {Q : Value → Shared → Prop} (hh : A.handled = none) (F : Fr h₀ L s.heap m) (N : News h₀ L s.heap news) (hl : (l, PySem.W.listOf (v0 :: vs).toArray n) ∈ news)
    (cmp : ∀ v ∈ vs, ∀ (s' : Shared) (Q' E' : Value → Shared → Prop), Fr h₀ L s'.heap m → News h₀ L s'.heap news → Q' (.bool false) s' → wpAny (model prog w) A.in1 (richCompare .Gt v v0) Q' E' s')
    (hQ : ∀ h' tk', Fr h₀ L h' m → News h₀ L h' news → Q v0 { s with heap := h', toks := tk' }) :
    wpAny (model prog w) A (call (.builtin "max") [.ref l]) Q E s := by
  have hname : (toString "max" ++ toString ".loop" : String) = "max.loop" := by decide
  have hls : s.heap.IsList l (v0 :: vs).toArray := ⟨_, (N _ hl).1, rfl, _, rfl⟩
  have hll : l < s.heap.objs.size := Heap.lt_size (N _ hl).1
  refine call_function_tree PySem.F.kind_max PySem.F.plain_max PySem.F.entry_max (PySem.F.args_max1 _) ?_
  show wpAny _ A.in1 (Builtin.Builtins.bindParams "max" ["key", "default"] 0 ⟨[], []⟩ >>= _) _ _ s
  refine wpAny_bind (wpAny_of_eq (show Builtin.Builtins.bindParams "max" ["key", "default"] 0 ⟨[], []⟩ = pure [none, none] from rfl) ?_)
  refine wpAny_bind (wpAny_pure ?_)
  refine wpAny_bind (wpAny_pyIter_list hls ?_)
  refine wpAny_bind (wpAny_newList ?_ (Nat.zero_le _))
  rw [hname]
  have hlI : l ≠ s.heap.objs.size := Nat.ne_of_lt hll
  have hnI : ∀ p ∈ news, p.1 ≠ s.heap.objs.size := fun p hp => Nat.ne_of_lt (Heap.lt_size (N p hp).1)
  have F1 := F.push ({ cls := .type "list_iterator", data := .fields #[.ref l, .int 0 0] } : Obj)
  have N1 := News.push F N ({ cls := .type "list_iterator", data := .fields #[.ref l, .int 0 0] } : Obj) rfl
  have hS : (s.heap.push { cls := .type "list_iterator", data := .fields #[.ref l, .int 0 0] }).objs.size = s.heap.objs.size + 1 := size_push' ..
  have F2 := F1.push (seqObj "list" #[] 0)
  have N2 := News.push F1 N1 (seqObj "list" #[] 0) rfl
  have hSI : (s.heap.push { cls := .type "list_iterator", data := .fields #[.ref l, .int 0 0] }).objs.size ≠ s.heap.objs.size := by rw [hS]; exact Nat.ne_of_gt (Nat.lt_succ_self _)
  have hnS : ∀ p ∈ news, p.1 ≠ (s.heap.push { cls := .type "list_iterator", data := .fields #[.ref l, .int 0 0] }).objs.size := fun p hp => by rw [hS]; exact Nat.ne_of_lt (Nat.lt_succ_of_lt (Heap.lt_size (N p hp).1))
  refine wpAny_pure ⟨plainId_quiet PySem.F.plain_max_loop _, ?_⟩
  generalize (s.heap.push { cls := .type "list_iterator", data := .fields #[.ref l, .int 0 0] }).objs.size = S at F2 N2 hSI hnS ⊢
  have F2' : Fr h₀ L ((s.heap.push { cls := .type "list_iterator", data := .fields #[.ref l, .int 0 0] }).push (seqObj "list" #[] 0)) m := F2
  generalize hG : ((s.heap.push { cls := .type "list_iterator", data := .fields #[.ref l, .int 0 0] }).push (seqObj "list" #[] 0)) = H at F2' N2
  have W := Walks.list (prog := prog) (w := w) (A := A.in1) hh s.heap.objs.size l hlI (v0 :: vs).toArray
  have hsz : (v0 :: vs).toArray.size = vs.length + 1 := by simp
  have gS := N2 (S, seqObj "list" #[] 0) (.head _)
  have gI := N2 (s.heap.objs.size, _) (.tail _ (.head _))
  have Nn : News h₀ L H news := fun p hp => N2 p (.tail _ (.tail _ hp))
  refine codeAny_builtin PySem.F.entry_max_loop ?_
  rw [Around.under_plainId PySem.F.plain_max_loop _]
  show wpAny _ A.in1 (seqItems? (.ref S) >>= _) _ _ _
  refine wpAny_bind (wpAny_seqItems gS.1 rfl ?_)
  show wpAny _ A.in1 (tryCatch (pyNext (.ref s.heap.objs.size)) _ >>= _) _ _ _
  refine wpAny_bind (wpAny_tryCatch (W.item 0 _ _ _ (by rw [hsz]; omega) ⟨⟨_, gI.1, rfl, rfl⟩, ⟨_, (Nn _ hl).1, rfl, _, rfl⟩⟩ fun v h' tk' hP hst' hk' => ?_))
  obtain rfl : v = v0 := by simpa using hP.symm
  obtain ⟨oI', hoI', hoc, hod⟩ := id hst'.1
  have F3 := kmb_fr F2' hk' gI.2.1 gI.2.2
  have N3 := kmb_news Nn hk' hnI
  have hS' := hk' S _ (by simpa using hSI) gS.1
  show wpAny _ A.in1 (pure v >>= _) _ _ _
  refine wpAny_bind (wpAny_pure ?_)
  have s1 := Heap.SameBut.update h' S (Obj.mapSeq fun _ => #[v, v])
  obtain ⟨c2, hc2⟩ : ∃ c2, (h'.update S (Obj.mapSeq fun _ => #[v, v])).get? S = some (seqObj "list" #[v, v] c2) := ⟨_, get?_update_seq hS' fun _ => #[v, v]⟩
  show wpAny _ A.in1 (updateSeq S (fun _ => #[v, v]) >>= _) _ _ _
  refine wpAny_bind ?_
  refine wpAny_updateSeq hS' rfl ?_
  rw [hname]
  refine wpAny_pure ⟨plainId_quiet PySem.F.plain_max_loop _, max_loop (s := s) (n := n) (c := c2) hh hl hlI hSI hnS hnI cmp hQ vs.length 0 _ _ oI' (by omega) (ksk_fr F3 s1 gS.2.1 gS.2.2) (fun p hp => ?_) ⟨oI', (s1.2 _ hSI.symm).trans hoI', hoc, hod⟩⟩
  rcases List.mem_append.mp hp with hp | hp
  · exact ksk_news N3 s1 hnS p hp
  · rcases List.mem_cons.mp hp with rfl | hp
    · exact ⟨hc2, gS.2⟩
    · rw [List.mem_singleton.mp hp]
      exact ⟨(s1.2 _ hSI.symm).trans hoI', gI.2⟩

theorem max_cmp_loop (l b : Addr) (items items2 : Array Value) (n n2 : Nat) (hsz : items.size = items2.size) (k : Nat) :
    ∀ i : Nat, items.size - i = k → Meets (Builtin.«list.__eq__.loop» ⟨[.ref l, .ref b, rawInt i, rawInt 4], []⟩)
      (fun A R s => s.heap.get? l = some (PySem.W.listOf items n) ∧ s.heap.get? b = some (PySem.W.listOf items2 n2) ∧
        (∀ j (h1 : j < items.size) (h2 : j < items2.size), PySem.SeqAt.EqAt A.in1 s items[j] items2[j] true) ∧
        R (.ok (.ret (.bool false))) s) := by
  induction k with
  | zero =>
    intro i hk prog w A R s h
    obtain ⟨hp, g, d, tk, os⟩ := s; obtain ⟨hl, hb, he, h⟩ := h
    wp_walk using PySem.AutoSeq1.wpAny_loadPart' hl, PySem.AutoSeq1.wpAny_loadPart' hb
    have hi1 : items[((i : Nat) : Int).toNat]? = none := by simp; omega
    have hi2 : items2[((i : Nat) : Int).toNat]? = none := by simp; omega
    rw [hi1, hi2]
    wp_walk using PySem.AutoSeq1.wpAny_loadPart' hl, PySem.AutoSeq1.wpAny_loadPart' hb
    show R (.ok (.ret (.bool (decide (items.size > items2.size))))) _
    rw [hsz]
    simpa using h
  | succ k ih =>
    intro i hk prog w A R s h
    obtain ⟨hp, g, d, tk, os⟩ := s; obtain ⟨hl, hb, he, h⟩ := h
    wp_walk using PySem.AutoSeq1.wpAny_loadPart' hl, PySem.AutoSeq1.wpAny_loadPart' hb
    have hlt : i < items.size := by omega
    have hlt2 : i < items2.size := by omega
    have hi1 : items[((i : Nat) : Int).toNat]? = some items[i] := by simp [hlt]
    have hi2 : items2[((i : Nat) : Int).toNat]? = some items2[i] := by simp [hlt2]
    have hc : ((i : Int) + 1) = ((i + 1 : Nat) : Int) := by push_cast; rfl
    rw [hi1, hi2]
    refine wpAny_bind (he i hlt hlt2 prog w _ _ ?_)
    wp_walk
    rw [hc]
    exact ⟨plainId_quiet PySem.MeetsSeq3.plain_eq_loop _, codeAny_builtin PySem.MeetsSeq3.entry_eq_loop (by
      rw [Around.under_plainId PySem.MeetsSeq3.plain_eq_loop _]
      exact ih (i + 1) (by omega) prog w A R _ ⟨hl, hb, he, h⟩)⟩
theorem max_cmp (l b : Addr) (items items2 : Array Value) (n n2 : Nat) (hsz : items.size = items2.size) :
    Meets (Builtin.«list.__gt__» ⟨[.ref l, .ref b], []⟩)
      (fun A R s => s.heap.get? l = some (PySem.W.listOf items n) ∧ s.heap.get? b = some (PySem.W.listOf items2 n2) ∧
        (∀ j (h1 : j < items.size) (h2 : j < items2.size), PySem.SeqAt.EqAt A.in1 s items[j] items2[j] true) ∧
        R (.ok (.ret (.bool false))) s) := by
  intro prog w A R s h
  obtain ⟨hp, g, d, tk, os⟩ := s; obtain ⟨hl, hb, he, h⟩ := h
  have f3 := PySem.AutoSeq1.sub_list_list
  wp_walk using PySem.AutoSeq1.wpAny_loadPart' hl, PySem.AutoSeq1.wpAny_loadPart' hb
  exact ⟨plainId_quiet PySem.MeetsSeq3.plain_eq_loop _, codeAny_builtin PySem.MeetsSeq3.entry_eq_loop (by
    rw [Around.under_plainId PySem.MeetsSeq3.plain_eq_loop _]
    exact max_cmp_loop l b items items2 n n2 hsz _ 0 rfl prog w A R _ ⟨hl, hb, he, h⟩)⟩
theorem max_lists {a b : Addr} {va vb : List Value} {xs : List Str} {k1 k2 : Nat} {s : Shared} {Q : Value → Shared → Prop} (N : News h₀ L s.heap news) (ma : (a, PySem.W.listOf va.toArray k1) ∈ news) (mb : (b, PySem.W.listOf vb.toArray k2) ∈ news) (ha : StrsAre va xs) (hb : StrsAre vb xs)
    (hu : A.units < cLine) (h : Q (.bool false) s) : wpAny (model prog w) A (richCompare .Gt (.ref a) (.ref b)) Q E s := by
  have hsz : va.toArray.size = vb.toArray.size := by rw [List.size_toArray, List.size_toArray, ha.length, hb.length]
  refine richCompare_meets_room (op := .Gt) ⟨_, (N _ ma).1, rfl⟩ ⟨_, (N _ mb).1, rfl⟩ PySem.F.slot_list_gt PySem.F.entry_list_gt (PySem.F.args_list_gt_2 _ _) (max_cmp a b va.toArray vb.toArray k1 k2 hsz) ⟨(N _ ma).1, (N _ mb).1, ?_, ?_⟩ hu
  · intro j h1 h2
    have h1' : j < xs.length := by rw [← ha.length]; simpa using h1
    obtain ⟨t1, e1⟩ := ha.get j xs[j] (List.getElem?_eq_getElem h1')
    obtain ⟨t2, e2⟩ := hb.get j xs[j] (List.getElem?_eq_getElem h1')
    have g1 : va.toArray[j] = .str xs[j] t1 := by
      have h3 : j < va.length := by simpa using h1
      rw [List.getElem?_eq_getElem h3] at e1
      simpa using Option.some.inj e1
    have g2 : vb.toArray[j] = .str xs[j] t2 := by
      have h3 : j < vb.length := by simpa using h2
      rw [List.getElem?_eq_getElem h3] at e2
      simpa using Option.some.inj e2
    rw [g1, g2]
    have := PySem.SeqAt.EqAt.str_str (A := A.in1) (s := s) xs[j] t1 xs[j] t2
    rwa [beq_self_eq_true] at this
  · exact ⟨(fun e => by cases e), h⟩
end
end Mine

theorem Mine.quietM1 : True := by
  w_top off
  trivial
namespace Mine
theorem owner_map : Manifest.owners.lookup (String.ofList ['p', 'a', 'm'].reverse) = some Manifest.sig_map := by kernel_rfl
theorem slot_map_init : Slot "map" "__init__" "object.__init__" :=
  .of (owner := "object") (n := "__init__") (by rw [typeLookup_type, builtinLookup_eq_fast]; kernel_rfl) (by decide +kernel) (by decide +kernel) (by decide +kernel)
    (by first | exact .inl (by decide +kernel) | exact .inr (by decide +kernel)) (by rw [isSubtype_type]; kernel_rfl)
theorem slot_map_iter : Slot "map" "__iter__" "map.__iter__" :=
  .of (owner := "map") (n := "__iter__") (by rw [typeLookup_type, builtinLookup_eq_fast]; kernel_rfl) (by decide +kernel) (by decide +kernel) (by decide +kernel)
    (by first | exact .inl (by decide +kernel) | exact .inr (by decide +kernel)) (by rw [isSubtype_type]; kernel_rfl)
theorem slot_map_next : Slot "map" "__next__" "map.__next__" :=
  .of (owner := "map") (n := "__next__") (by rw [typeLookup_type, builtinLookup_eq_fast]; kernel_rfl) (by decide +kernel) (by decide +kernel) (by decide +kernel)
    (by first | exact .inl (by decide +kernel) | exact .inr (by decide +kernel)) (by rw [isSubtype_type]; kernel_rfl)
theorem args_map_iter_1 (a : Value) : argsOk "map.__iter__" ⟨[a], []⟩ := by
  unfold argsOk; rw [signature?_of (id := "map.__iter__") (n := ['_', '_', 'r', 'e', 't', 'i', '_', '_']) (o := ['p', 'a', 'm']) (by kernel_rfl) owner_map]; kernel_rfl
theorem args_map_next_1 (a : Value) : argsOk "map.__next__" ⟨[a], []⟩ := by
  unfold argsOk; rw [signature?_of (id := "map.__next__") (n := ['_', '_', 't', 'x', 'e', 'n', '_', '_']) (o := ['p', 'a', 'm']) (by kernel_rfl) owner_map]; kernel_rfl
theorem entry_map_next : entryFor table "map.__next__" = some Builtin.«map.__next__» := entryFor_of_tree (by kernel_rfl)
theorem entry_map_new : entryFor table "map.__new__" = some Builtin.«map.__new__» := entryFor_of_tree (by kernel_rfl)
theorem entry_map_iter : entryFor table "map.__iter__" = some Builtin.«dict_keyiterator.__iter__» :=
  entryFor_alias (id' := "dict_keyiterator.__iter__") (by kernel_rfl) (by first | rfl | decide +kernel | (unfold String.splitOn; simp +decide [String.splitOnAux])) (by decide +kernel) (by kernel_rfl)
theorem mro_map : mroOf (.type "map") = pure [.type "map", .type "object"] := by rw [mroOf_type]; kernel_rfl
theorem lookup_map_new : typeLookup (.type "map") "__new__" = pure (some (.builtin "map.__new__")) := by rw [typeLookup_type, builtinLookup_eq_fast]; kernel_rfl
theorem called_map : TypeCalled "map" "map.__new__" "object.__init__" :=
  ⟨by decide +kernel, by decide +kernel, ⟨_, _, mro_map⟩, madeBy_type mro_map lookup_map_new (by decide +kernel), by decide +kernel, by rw [isSubtype_type]; kernel_rfl, slot_map_init⟩
theorem typeCall_map_2 (a b : Value) : checkTypeCall "map" ⟨[a, b], []⟩ = pure () := by kernel_rfl
theorem newCall_map_2 (a b : Value) : checkBuiltinCall "map.__new__" ⟨[.type "map", a, b], []⟩ = pure () := by kernel_rfl
theorem map_no_len : typeLookup (.type "map") "__len__" = pure none := by rw [typeLookup_type, builtinLookup_eq_fast]; kernel_rfl
theorem map_no_hint : typeLookup (.type "map") "__length_hint__" = pure none := by rw [typeLookup_type, builtinLookup_eq_fast]; kernel_rfl
theorem sub_map : isSubtype (.type "map") (.type "map") = pure true := by rw [isSubtype_type]; kernel_rfl
abbrev mapO (T : Addr) (f : Value) : Obj := { cls := .type "map", dict := none, data := .fields #[.ref T, f], slots := #[] }
abbrev tup1 (I : Addr) : Obj := { cls := .type "tuple", data := .seq #[.ref I] }
theorem map_new_in (prog : Program) (w : World) (f : Value) (l : Addr) (xs : Array Value) :
    MeetsIn prog w (Builtin.«map.__new__» ⟨[.type "map", f, .ref l], []⟩) (fun _ R s => s.heap.IsList l xs ∧
      R (.ok (.ret (.ref (s.heap.objs.size + 2)))) { s with heap := ((s.heap.push { cls := .type "list_iterator", data := .fields #[.ref l, .int 0 0] }).push (tup1 s.heap.objs.size)).push (mapO (s.heap.objs.size + 1) f) }) :=
  .of_wp fun A R s h => by
    obtain ⟨hp, g, d, tk, os⟩ := s; obtain ⟨hl1, h⟩ := h
    have hsub := sub_map
    have hL1 : Heap.IsList (Shared.heap ⟨hp, g, d, tk, os⟩) l xs := hl1
    wp_walk using wpAny_pyIter_list hL1
    refine ⟨_, rfl, ?_⟩
    have e : ∀ (a b : Obj), ((hp.push a).push b).objs.size = hp.objs.size + 2 := fun a b => by rw [Heap.size_push, Heap.size_push]
    have e1 : ∀ (a : Obj), (hp.push a).objs.size = hp.objs.size + 1 := fun a => by rw [Heap.size_push]
    (try simp only [e, e1]); exact h
section
variable {prog : Program} {w : World} {A : Around} {E : Value → Shared → Prop} {s : Shared}
theorem call_map {f : Value} {l L : Addr} {xs : Array Value} {h₀ : Heap} {m : Str → Option Value} {news : Led} {Q : Value → Shared → Prop} (F : Fr h₀ L s.heap m) (N : News h₀ L s.heap news) (hl : s.heap.IsList l xs)
    (h : ∀ M T I h', Fr h₀ L h' m → News h₀ L h' ((M, mapO T f) :: (T, tup1 I) :: (I, ({ cls := .type "list_iterator", data := .fields #[.ref l, .int 0 0] } : Obj)) :: news) → (@Ne Nat M I) → (@Ne Nat T I) → (∀ p ∈ news, p.1 ≠ I) → Q (.ref M) { s with heap := h' }) :
    wpAny (model prog w) A (call (.type "map") [f, .ref l]) Q E s := by
  refine callType_newIn called_map (by decide) (typeCall_map_2 _ _) (newCall_map_2 _ _) (fun obj => PySem.F.args_object_init_3 obj _ _) entry_map_new (map_new_in prog w f l xs) ⟨hl, ?_⟩
  have F1 := F.push ({ cls := .type "list_iterator", data := .fields #[.ref l, .int 0 0] } : Obj)
  have N1 := News.push F N ({ cls := .type "list_iterator", data := .fields #[.ref l, .int 0 0] } : Obj) rfl
  have F2 := F1.push (tup1 s.heap.objs.size)
  have N2 := News.push F1 N1 (tup1 s.heap.objs.size) rfl
  have F3 := F2.push (mapO (s.heap.objs.size + 1) f)
  have N3 := News.push F2 N2 (mapO (s.heap.objs.size + 1) f) rfl
  rw [Heap.size_push, Heap.size_push] at N3
  have g := (N3 _ (.head _)).1
  have z2 : (@Ne Nat (s.heap.objs.size + 1 + 1) s.heap.objs.size) := by omega
  have z1 : (@Ne Nat (s.heap.objs.size + 1) s.heap.objs.size) := by omega
  exact ⟨⟨_, g, rfl⟩, h _ _ _ _ F3 N3 z2 z1 (News.apart N)⟩
end
end Mine

theorem Mine.quietM2 : True := by
  w_top off
  trivial
namespace Mine
section
variable {prog : Program} {w : World} {A : Around} {E : Value → Shared → Prop} {s : Shared} {h₀ : Heap} {L : Addr} {m : Str → Option Value}
theorem map_next_item {M T I l : Addr} {f v : Value} {oI : Obj} {its : Array Value} {i : Nat} {pre news : Led} {Q : Value → Shared → Prop} (F : Fr h₀ L s.heap m) (N : News h₀ L s.heap (pre ++ (I, oI) :: news))
    (hc : oI.cls = .type "list_iterator") (hd : oI.data = .fields #[.ref l, .int i 0]) (hM : (M, mapO T f) ∈ pre) (hT : (T, tup1 I) ∈ pre) (hl : s.heap.IsList l its) (hv : its[i]? = some v)
    (hp : ∀ p ∈ pre, p.1 ≠ I) (hn : ∀ p ∈ news, p.1 ≠ I)
    (h : ∀ h' oI', oI'.cls = .type "list_iterator" → oI'.data = .fields #[.ref l, .int (i + 1 : Nat) 0] → Fr h₀ L h' m → News h₀ L h' (pre ++ (I, oI') :: news) →
      wpAny (model prog w) A (call f [v]) Q E { s with heap := h' }) :
    wpAny (model prog w) A (Builtin.«map.__next__» ⟨[.ref M], []⟩) (fun fin s' => ∃ r, fin = .done (.ret r) ∧ Q r s') E s := by
  have gM := (N _ (List.mem_append_left _ hM)).1
  have gT := (N _ (List.mem_append_left _ hT)).1
  show wpAny _ _ (field (.ref M) 0 >>= _) _ _ _
  refine wpAny_bind (wpAny_field gM rfl (x := .ref T) rfl ?_)
  refine wpAny_bind (wpAny_seqItems gT rfl ?_)
  dsimp only
  rw [← Array.forIn_toList]
  show wpAny _ _ (forIn [Value.ref I] #[] _ >>= _) _ _ _
  rw [List.forIn_cons]
  have gI := (N (I, oI) (List.mem_append_right _ (.head _))).1
  have nI := (N (I, oI) (List.mem_append_right _ (.head _))).2
  refine wpAny_bind (wpAny_bind (wpAny_bind (wpAny_holding (wpAny_nextOf_list_item ⟨oI, gI, hc, hd⟩ hl hv ?_))))
  intro h' hI hs
  obtain ⟨oI', gI', hc', hd'⟩ := hI
  have F' := Fr.change F hs nI.1 nI.2
  have N' : News h₀ L h' (pre ++ (I, oI') :: news) := News.setIn N hp hn hs gI'
  refine wpAny_pure ?_
  refine wpAny_pure ?_
  have gM' := (N' _ (List.mem_append_left _ hM)).1
  show wpAny _ _ (field (.ref M) 1 >>= _) _ _ _
  refine wpAny_bind (wpAny_field gM' rfl (x := f) rfl ?_)
  refine wpAny_bind (wpAny_holding (wpAny_mono (h h' oI' hc' hd' F' N') (fun r s' hq => ?_) fun _ _ x => x))
  refine wpAny_bind (wpAny_letGo (wpAny_pure ⟨_, rfl, hq⟩))
theorem map_next_end {M T I l : Addr} {f : Value} {oI : Obj} {its : Array Value} {i : Nat} {pre news : Led} {Q : Fin → Shared → Prop} (hh : A.handled = none) (F : Fr h₀ L s.heap m) (N : News h₀ L s.heap (pre ++ (I, oI) :: news))
    (hc : oI.cls = .type "list_iterator") (hd : oI.data = .fields #[.ref l, .int i 0]) (hM : (M, mapO T f) ∈ pre) (hT : (T, tup1 I) ∈ pre) (hl : s.heap.IsList l its) (hv : its[i]? = none)
    (hp : ∀ p ∈ pre, p.1 ≠ I) (hn : ∀ p ∈ news, p.1 ≠ I)
    (h : ∀ h' e, Fr h₀ L h' m → News h₀ L h' (pre ++ news) → (∃ o, h'.get? e = some o ∧ o.cls = .type "StopIteration") → E (.ref e) { s with heap := h' }) :
    wpAny (model prog w) A (Builtin.«map.__next__» ⟨[.ref M], []⟩) Q E s := by
  have gM := (N _ (List.mem_append_left _ hM)).1
  have gT := (N _ (List.mem_append_left _ hT)).1
  show wpAny _ _ (field (.ref M) 0 >>= _) _ _ _
  refine wpAny_bind (wpAny_field gM rfl (x := .ref T) rfl ?_)
  refine wpAny_bind (wpAny_seqItems gT rfl ?_)
  dsimp only
  rw [← Array.forIn_toList]
  show wpAny _ _ (forIn [Value.ref I] #[] _ >>= _) _ _ _
  rw [List.forIn_cons]
  have gI := (N (I, oI) (List.mem_append_right _ (.head _))).1
  have nI := (N (I, oI) (List.mem_append_right _ (.head _))).2
  refine wpAny_bind (wpAny_bind (wpAny_bind (wpAny_holding (wpAny_nextOf_list_end hh ⟨oI, gI, hc, hd⟩ hl hv ?_))))
  intro h' e hs he
  have hk : ∀ b o, b ∉ [I] → s.heap.get? b = some o → h'.get? b = some o := fun b o hb x => hs b o (fun e => hb (e ▸ .head _)) x
  refine h h' e (LCg.fr_but F hk nI.1.symm nI.2) (LCg.news_but (fun p hp => N p ?_) hk ?_) he
  · rcases List.mem_append.mp hp with hp | hp
    · exact List.mem_append_left _ hp
    · exact List.mem_append_right _ (.tail _ hp)
  · intro p hp2
    rcases List.mem_append.mp hp2 with hp2 | hp2
    · exact hp p hp2
    · exact hn p hp2
theorem pyNext_map_item {M T I l : Addr} {f v : Value} {oI : Obj} {its : Array Value} {i : Nat} {pre news : Led} {Q : Option Value → Shared → Prop} (F : Fr h₀ L s.heap m) (N : News h₀ L s.heap (pre ++ (I, oI) :: news))
    (hc : oI.cls = .type "list_iterator") (hd : oI.data = .fields #[.ref l, .int i 0]) (hM : (M, mapO T f) ∈ pre) (hT : (T, tup1 I) ∈ pre) (hl : s.heap.IsList l its) (hv : its[i]? = some v)
    (hp : ∀ p ∈ pre, p.1 ≠ I) (hn : ∀ p ∈ news, p.1 ≠ I)
    (h : ∀ h' oI' E', oI'.cls = .type "list_iterator" → oI'.data = .fields #[.ref l, .int (i + 1 : Nat) 0] → Fr h₀ L h' m → News h₀ L h' (pre ++ (I, oI') :: news) →
      wpAny (model prog w) A.in1 (call f [v]) (fun r => Q (some r)) E' { s with heap := h' }) :
    wpAny (model prog w) A (pyNext (.ref M)) Q E s := by
  have hT' : s.TypeIs (.ref M) "map" := ⟨_, (N _ (List.mem_append_left _ hM)).1, rfl⟩
  unfold pyNext
  exact wpAny_bind (wpAny_attempt (wpAny_callSpecial?_slot (name := Str.ofString "__next__") hT' slot_map_next
    (wpAny_call_entry slot_map_next hT' entry_map_next
      (map_next_item F N hc hd hM hT hl hv hp hn fun h' oI' a1 a2 a3 a4 => wpAny_mono (h h' oI' _ a1 a2 a3 a4) (fun r s' x => wpAny_pure x) fun _ _ x => x) (args_map_next_1 _))))
theorem pyNext_map_end {M T I l : Addr} {f : Value} {oI : Obj} {its : Array Value} {i : Nat} {pre news : Led} {Q : Option Value → Shared → Prop} (hh : A.handled = none) (F : Fr h₀ L s.heap m) (N : News h₀ L s.heap (pre ++ (I, oI) :: news))
    (hc : oI.cls = .type "list_iterator") (hd : oI.data = .fields #[.ref l, .int i 0]) (hM : (M, mapO T f) ∈ pre) (hT : (T, tup1 I) ∈ pre) (hl : s.heap.IsList l its) (hv : its[i]? = none)
    (hp : ∀ p ∈ pre, p.1 ≠ I) (hn : ∀ p ∈ news, p.1 ≠ I)
    (h : ∀ h', Fr h₀ L h' m → News h₀ L h' (pre ++ news) → Q none { s with heap := h' }) :
    wpAny (model prog w) A (pyNext (.ref M)) Q E s := by
  have hT' : s.TypeIs (.ref M) "map" := ⟨_, (N _ (List.mem_append_left _ hM)).1, rfl⟩
  unfold pyNext
  refine wpAny_bind (wpAny_attempt (wpAny_callSpecial?_slot (name := Str.ofString "__next__") hT' slot_map_next
    (wpAny_call_entry slot_map_next hT' entry_map_next (map_next_end hh F N hc hd hM hT hl hv hp hn fun h' e F' N' he => ?_) (args_map_next_1 _))))
  obtain ⟨o, ho, hc⟩ := he
  refine wpAny_bind (wpAny_isInstance (T := "StopIteration") (b := true) ⟨o, ho, hc⟩ isSubtype_stop ?_)
  exact wpAny_pure (h _ F' N')
abbrev mkL (vs : List Value) (c : Nat) : Obj := { cls := .type "list", dict := none, data := .seq vs.toArray c, slots := #[] }
theorem map_loop {M T I l S : Addr} {f : Value} {vs : List Value} {pre news : Led} {res : Value} {R : Result → Shared → Prop} (hh : A.handled = none) (hsz : vs.length ≤ sizeLine)
    (hM : (M, mapO T f) ∈ pre) (hT : (T, tup1 I) ∈ pre) (hl : ∀ h, News h₀ L h news → h.IsList l vs.toArray) (hp : ∀ p ∈ pre, p.1 ≠ I) (hn : ∀ p ∈ news, p.1 ≠ I)
    (hSp : ∀ p ∈ pre, p.1 ≠ S) (hSn : ∀ p ∈ news, p.1 ≠ S) (hSI : (@Ne Nat S I))
    (hf : ∀ v ∈ vs, ∀ lg (s' : Shared) (Q' E' : Value → Shared → Prop), Fr h₀ L s'.heap m → News h₀ L s'.heap lg → (∀ h' tk', Fr h₀ L h' m → News h₀ L h' lg → Q' v { s' with heap := h', toks := tk' }) → wpAny (model prog w) A.in1.in1 (call f [v]) Q' E' s') :
    ∀ (k i : Nat) (s : Shared) (oI : Obj) (c : Nat), vs.length - i = k → i ≤ vs.length → oI.cls = .type "list_iterator" → oI.data = .fields #[.ref l, .int i 0] → Fr h₀ L s.heap m → News h₀ L s.heap ((S, mkL (vs.take i) c) :: pre ++ (I, oI) :: news) →
    (∀ h' tk' c', Fr h₀ L h' m → News h₀ L h' ((S, mkL vs c') :: pre ++ news) → R (.ok (.ret res)) { s with heap := h', toks := tk' }) →
    codeAny (model prog w) A (.builtin "list.extend.loop" ⟨[.ref S, .ref M, res], []⟩) R s := by
  have hp' : ∀ o, ∀ p ∈ ((S, o) :: pre : Led), p.1 ≠ I := fun o p hq => by
    rcases List.mem_cons.mp hq with rfl | hq
    · exact hSI
    · exact hp p hq
  intro k
  induction k with
  | zero =>
    intro i s oI c hk hi hc hd F N hR
    have hin : i = vs.length := by omega
    refine codeAny_builtin PySem.F.entry_extend_loop ?_
    rw [Around.under_plainId PySem.F.plain_extend_loop _]
    show wpAny _ A.in1 (pyNext (.ref M) >>= _) _ _ s
    have hl' := hl s.heap fun p hq => N p (List.mem_append_right _ (.tail _ hq))
    refine wpAny_bind (pyNext_map_end hh F N hc hd (.tail _ hM) (.tail _ hT) hl' (by simp [hin]) (hp' _) hn fun h' F' N' => ?_)
    rw [hin, List.take_length] at N'
    exact wpAny_pure (hR h' s.toks _ F' N')
  | succ k ih =>
    intro i s oI c hk hi hc hd F N hR
    have hlt : i < vs.length := by omega
    refine codeAny_builtin PySem.F.entry_extend_loop ?_
    rw [Around.under_plainId PySem.F.plain_extend_loop _]
    show wpAny _ A.in1 (pyNext (.ref M) >>= _) _ _ s
    have hl' := hl s.heap fun p hq => N p (List.mem_append_right _ (.tail _ hq))
    refine wpAny_bind (pyNext_map_item F N hc hd (.tail _ hM) (.tail _ hT) hl' (v := vs[i]) (by simp [hlt]) (hp' _) hn fun h' oI' E' hc' hd' F' N' => hf vs[i] (List.getElem_mem hlt) _ _ _ _ F' N' fun h2 tk2 F2 N2 => ?_)
    have hS2 := (N2 _ (List.mem_append_left _ (.head _))).1
    have nS2 := (N2 _ (List.mem_append_left _ (.head _))).2
    have ap : ∀ p ∈ pre ++ (I, oI') :: news, p.1 ≠ S := fun p hq => by
      rcases List.mem_append.mp hq with hq | hq
      · exact hSp p hq
      · rcases List.mem_cons.mp hq with rfl | hq
        · exact hSI.symm
        · exact hSn p hq
    have gS := Heap.get?_update_self (Obj.mapSeq (·.push vs[i])) hS2 rfl
    have N3 := News.setHead N2 ap (Heap.SameBut.update ..) gS
    have F3 := Fr.change F2 (Heap.SameBut.update h2 S (Obj.mapSeq (·.push vs[i]))) nS2.1 nS2.2
    have e : (vs.take i).toArray.push vs[i] = (vs.take (i + 1)).toArray := by rw [List.take_add_one, List.getElem?_eq_getElem hlt]; simp
    obtain ⟨c2, e2⟩ : ∃ c2, Obj.mapSeq (·.push vs[i]) (mkL (vs.take i) c) = mkL (vs.take (i + 1)) c2 := by (refine ⟨?c9, ?e9⟩; rotate_left; (unfold Obj.mapSeq; dsimp only [mkL]; simp only [e]; exact rfl))
    dsimp only at N3
    rw [e2] at N3
    show wpAny _ A.in1 (updateSeq S (·.push vs[i]) >>= _) _ _ _
    refine wpAny_bind ?_
    refine wpAny_updateSeq hS2 rfl (wpAny_pure ⟨plainId_quiet PySem.F.plain_extend_loop _, ih (i + 1) _ oI' _ (by omega) hlt hc' hd' F3 N3 fun h3 tk3 c3 F4 N4 => hR h3 tk3 c3 F4 N4⟩) ?_ ?_
    · simp; omega
    · show ((vs.take i).toArray.push _).size ≤ sizeLine + 1
      simp; omega
theorem collect_map {M T I l : Addr} {f : Value} {vs : List Value} {oI : Obj} {news : Led} {Q : List Value → Shared → Prop} (hh : A.handled = none) (hsz : vs.length ≤ sizeLine)
    (F : Fr h₀ L s.heap m) (N : News h₀ L s.heap ((M, mapO T f) :: (T, tup1 I) :: (I, oI) :: news)) (hc : oI.cls = .type "list_iterator") (hd : oI.data = .fields #[.ref l, .int 0 0])
    (hl : ∀ h, News h₀ L h news → h.IsList l vs.toArray) (hMI : (@Ne Nat M I)) (hTI : (@Ne Nat T I)) (hn : ∀ p ∈ news, p.1 ≠ I)
    (hf : ∀ v ∈ vs, ∀ lg (s' : Shared) (Q' E' : Value → Shared → Prop), Fr h₀ L s'.heap m → News h₀ L s'.heap lg → (∀ h' tk', Fr h₀ L h' m → News h₀ L h' lg → Q' v { s' with heap := h', toks := tk' }) → wpAny (model prog w) A.in1.in1 (call f [v]) Q' E' s')
    (h : ∀ h' tk', Fr h₀ L h' m → News h₀ L h' news → Q vs { s with heap := h', toks := tk' }) :
    wpAny (model prog w) A (collect (.ref M)) Q E s := by
  have hTm : ∀ (t : Shared), (∃ lg, News h₀ L t.heap ((M, mapO T f) :: lg)) → t.TypeIs (.ref M) "map" := fun t ⟨lg, q⟩ => ⟨_, (q _ (.head _)).1, rfl⟩
  have hSn : ∀ p ∈ ((M, mapO T f) :: (T, tup1 I) :: (I, oI) :: news : Led), p.1 ≠ s.heap.objs.size := News.apart N
  have hMS : (@Ne Nat s.heap.objs.size M) := (hSn _ (.head _)).symm
  unfold collect
  refine wpAny_bind (wpAny_runValue (codeAny_builtin PySem.F.entry_proto_collect ?_))
  rw [Around.under_plainId PySem.F.plain_proto_collect _]
  show wpAny _ A.in1 (newList [] >>= fun l => again (.builtin "list.__iadd__" ⟨[l, .ref M], []⟩)) _ _ s
  refine wpAny_bind (wpAny_newObj_type ?_)
  refine wpAny_pure ⟨plainId_quiet PySem.F.plain_list_iadd _, codeAny_builtin PySem.F.entry_list_iadd ?_⟩
  rw [Around.under_plainId PySem.F.plain_list_iadd _]
  have F1 := F.push ({ cls := .type "list", data := .seq ([] : List Value).toArray } : Obj)
  have N1 := News.push F N ({ cls := .type "list", data := .seq ([] : List Value).toArray } : Obj) rfl
  have hT1 : Shared.TypeIs { s with heap := s.heap.push { cls := .type "list", data := .seq ([] : List Value).toArray } } (.ref M) "map" := ⟨_, (N1 _ (.tail _ (.head _))).1, rfl⟩
  show wpAny _ A.in1 (Builtin.List.listExtendWith (.ref s.heap.objs.size) (.ref M) (.ref s.heap.objs.size)) _ _ _
  unfold Builtin.List.listExtendWith
  refine wpAny_bind (wpAny_typeOf hT1 ?_)
  have h1 : Builtin.List.listSameRef (.ref s.heap.objs.size) (.ref M) = false := by simp [Builtin.List.listSameRef]; exact hMS
  have h2 : (Value.type "map" == Value.type "list") = false := by decide
  have h3 : (Value.type "map" == Value.type "tuple") = false := by decide
  simp only [h1, h2, h3, Bool.or_false, Bool.false_eq_true, if_false]
  refine wpAny_bind (wpAny_pyIter_slot hT1 slot_map_iter (wpAny_call_entry slot_map_iter hT1 entry_map_iter ?_ (args_map_iter_1 _)))
  show wpAny _ _ (ret (.ref M)) _ _ _
  refine wpAny_pure ⟨_, rfl, "map", _, hT1, slot_map_next.lookup, ?_⟩
  refine wpAny_bind (wpAny_holding ?_)
  unfold Builtin.List.listLengthHint
  refine wpAny_bind (wpAny_specialOf hT1 map_no_len ?_)
  show wpAny _ A.in1 (specialOf (Value.ref M) (Str.ofString "__length_hint__") >>= _) _ _ _
  refine wpAny_bind (wpAny_specialOf hT1 map_no_hint ?_)
  refine wpAny_pure ?_
  show wpAny _ A.in1 (rule "list.extend.makes-room" >>= fun _ => Builtin.List.listTouch (.ref s.heap.objs.size) >>= fun _ =>
    again (.builtin "list.extend.loop" ⟨[.ref s.heap.objs.size, .ref M, .ref s.heap.objs.size], []⟩)) _ _ _
  refine wpAny_bind (wpAny_rule ?_)
  have hS₁ : (s.heap.push { cls := .type "list", data := .seq ([] : List Value).toArray }).get? s.heap.objs.size = some { cls := .type "list", data := .seq ([] : List Value).toArray } := Heap.get?_push_size _ rfl
  refine wpAny_bind ?_
  show wpAny _ A.in1 (updateSeq s.heap.objs.size (·.push .none) >>= fun _ => updateSeq s.heap.objs.size (·.pop)) _ _ _
  refine wpAny_bind (wpAny_updateSeq hS₁ rfl ?_)
  have hS₂ := Heap.get?_update_self (Obj.mapSeq (·.push Value.none)) hS₁ rfl
  refine wpAny_updateSeq hS₂ rfl ?_
  have hS₃ := Heap.get?_update_self (Obj.mapSeq (·.pop)) hS₂ rfl
  have nS := (N1 _ (.head _)).2
  have N2 := News.setHead N1 hSn (Heap.SameBut.update ..) hS₂
  have F2 := Fr.change F1 (Heap.SameBut.update _ s.heap.objs.size (Obj.mapSeq (·.push Value.none))) nS.1 nS.2
  have N3 := News.setHead N2 hSn (Heap.SameBut.update ..) hS₃
  have F3 := Fr.change F2 (Heap.SameBut.update _ s.heap.objs.size (Obj.mapSeq (·.pop))) nS.1 nS.2
  refine wpAny_pure ⟨plainId_quiet PySem.F.plain_extend_loop _, map_loop (A := A) (pre := [(M, mapO T f), (T, tup1 I)]) (news := news) hh hsz (.head _) (.tail _ (.head _)) hl ?_ hn ?_ (fun p hp => hSn p (.tail _ (.tail _ (.tail _ hp)))) (hSn (I, oI) (.tail _ (.tail _ (.head _)))).symm ?_ vs.length 0 _ oI _ (by omega) (Nat.zero_le _) hc hd F3 N3 fun h' tk' c' F' N' => ?_⟩
  · intro p hp
    rcases List.mem_cons.mp hp with rfl | hp
    · exact hMI
    · rw [List.mem_singleton.mp hp]; exact hTI
  · intro p hp
    rcases List.mem_cons.mp hp with rfl | hp
    · exact hMS.symm
    · rw [List.mem_singleton.mp hp]; exact hSn (T, tup1 I) (.tail _ (.head _))
  · intro v hv lg s' Q' E' F' N' hq
    exact hf v hv lg s' Q' E' F' N' hq
  · show wpAny _ A (load s.heap.objs.size >>= _) _ _ _
    refine wpAny_bind (wpAny_load (N' _ (.head _)).1 ?_)
    exact wpAny_pure (h h' tk' F' fun p hp => N' p (List.mem_append_right _ hp))
theorem tuple_new_map_in (prog : Program) (w : World) (M : Addr) (vs : List Value) (hsz : vs.length ≤ sizeLine) :
    MeetsIn prog w (Builtin.«tuple.__new__» ⟨[.type "tuple", .ref M], []⟩) (fun A R s => s.TypeIs (.ref M) "map" ∧
      wpAny (model prog w) A.in1 (collect (.ref M)) (fun xs s' => xs = vs ∧ R (.ok (.ret (.ref s'.heap.objs.size))) { s' with heap := s'.heap.push { cls := .type "tuple", data := .seq vs.toArray } }) (fun e s' => R (.error e) s') s) :=
  .of_wp fun A R s h => by
    obtain ⟨hp, g, d, tk, os⟩ := s; obtain ⟨ht, h⟩ := h
    have hsub := sub_tuple_self
    have hinit := init_tuple_lookup
    have hmh := madeHere_tuple
    obtain ⟨oM, gM, cM⟩ := id ht
    wp_walk using wpAny_loadPart' gM, wpAny_typeOf ht, (wpAny_mono h)
    · rintro xs s' ⟨rfl, hr⟩
      show wpAny _ _ (Builtin.Tuple.tupleExact xs.toArray >>= fun v => ret v) _ _ _
      unfold Builtin.Tuple.tupleExact
      refine wpAny_bind (wpAny_newObj_type ?_ (by show xs.toArray.size ≤ sizeLine; simpa using hsz))
      exact wpAny_pure ⟨_, rfl, hr⟩
    · exact fun _ _ x => x
theorem tuple_map {M T I l : Addr} {f : Value} {vs : List Value} {oI : Obj} {news : Led} {Q : Value → Shared → Prop} (hh : A.handled = none) (hsz : vs.length ≤ sizeLine)
    (F : Fr h₀ L s.heap m) (N : News h₀ L s.heap ((M, mapO T f) :: (T, tup1 I) :: (I, oI) :: news)) (hc : oI.cls = .type "list_iterator") (hd : oI.data = .fields #[.ref l, .int 0 0])
    (hl : ∀ h, News h₀ L h news → h.IsList l vs.toArray) (hMI : (@Ne Nat M I)) (hTI : (@Ne Nat T I)) (hn : ∀ p ∈ news, p.1 ≠ I)
    (hf : ∀ v ∈ vs, ∀ lg (s' : Shared) (Q' E' : Value → Shared → Prop), Fr h₀ L s'.heap m → News h₀ L s'.heap lg → (∀ h' tk', Fr h₀ L h' m → News h₀ L h' lg → Q' v { s' with heap := h', toks := tk' }) → wpAny (model prog w) A.in1.in1.in1.in1 (call f [v]) Q' E' s')
    (h : ∀ D h' tk', Fr h₀ L h' m → News h₀ L h' ((D, ({ cls := .type "tuple", data := .seq vs.toArray } : Obj)) :: news) → (∀ p ∈ news, p.1 < D) → Q (.ref D) { s with heap := h', toks := tk' }) :
    wpAny (model prog w) A (call (.type "tuple") [.ref M]) Q E s := by
  refine callType_newIn PySem.F.called_tuple (by decide) (PySem.F.typeCall_tuple_1 _) (PySem.F.newCall_tuple_1 _) (fun obj => PySem.F.args_object_init_2 obj _) PySem.F.entry_tuple_new (tuple_new_map_in prog w M vs hsz) ⟨⟨_, (N _ (.head _)).1, rfl⟩, ?_⟩
  refine collect_map (A := A.in1.in1) hh hsz F N hc hd hl hMI hTI hn hf fun h' tk' F' N' => ⟨rfl, ⟨_, Heap.get?_push_size _ rfl, rfl⟩, h _ _ _ (F'.push _) (News.push F' N' _ rfl) fun p hp => Heap.lt_size (N' p hp).1⟩
end
end Mine

theorem Mine.quietK1 : True := by
  w_top off
  trivial
local macro_rules | `(tactic| walk_at "exec Try") => `(tactic| ((with_reducible show wpAny _ _ (exec (Stmt.Try _ (_ :: _) _ [] _) (envOfC _ _ _ _ _)) _ _ _); refine wpAny_Try_except ?_))
namespace Mine
theorem len_nil {z : Str} (h : (z.length : Int) = 0) : z = Str.ofString "" := by
  have : tl z = [] := List.length_eq_zero_iff.mp (by rw [len_tl]; omega)
  rw [← S_tl z, this]; rfl
theorem cmp_t {z : Str} (h : (z.length : Int) ≠ 0) (h2 : (z != Str.ofString ".") = true) : (z != Str.ofString "" && z != Str.ofString ".") = true := by
  have h3 : z ≠ Str.ofString "" := by rintro rfl; exact h rfl
  rw [h2, Bool.and_true]; simpa using h3
theorem cmp_f1 {z : Str} (h2 : (z != Str.ofString ".") = false) : (z != Str.ofString "" && z != Str.ofString ".") = false := by rw [h2, Bool.and_false]
theorem cmp_f2 {z : Str} (h : (z.length : Int) = 0) : (z != Str.ofString "" && z != Str.ofString ".") = false := by rw [len_nil h]; rfl
def comps (x : Str) : List Str := (Txt.split x (Str.ofString "/")).filter (fun z => z != Str.ofString "" && z != Str.ofString ".")
theorem comps_len {x : Str} {b : Nat} (h : ∀ z ∈ Txt.split x (Str.ofString "/"), z.length ≤ b) : ∀ z ∈ comps x, z.length ≤ b := fun z hz => h z (List.mem_filter.mp hz).1
theorem comps_le {x : Str} {b : Nat} (h : (Txt.split x (Str.ofString "/")).length ≤ b) : (comps x).length ≤ b := Nat.le_trans (List.length_filter_le _ _) h
theorem comps_strs {x : Str} {ys : List Value} (h : StrsAre ys (((Txt.split x (Str.ofString "/")).filter (fun z => z != Str.ofString "" && z != Str.ofString ".")).map fun z => z)) : StrsAre ys (comps x) := by
  unfold comps
  simpa using h
def commonP (x : Str) : Str := (if Txt.startswith x (Str.ofString "/") = true then Str.ofString "/" else Str.ofString "") ++ Str.join (Str.ofString "/") (comps x)
section
open LCg
theorem cendO {h₀ : Heap} {L : Addr} {m : Str → Option Value} {I C D D2 : Addr} {s₁ : Shared} {oI oC oD o2 : Obj} {S : Led → Prop} {rest : Value → Led → Prop} {y : Value} {h' : Heap} {tk : Nat} {news : Led}
    (F : Fr h₀ L h' m) (N : News h₀ L h' ((D2, o2) :: (I, oI) :: (C, oC) :: (D, oD) :: news)) (l2 : Off1 D2 ((I, oI) :: (C, oC) :: (D, oD) :: news)) (off : Off3 I C D news) (hS : S ((D2, o2) :: news)) (r : rest y ((D2, o2) :: news)) :
    CompEnd h₀ L m s₁ I oI C oC D oD S rest y { s₁ with heap := h', toks := tk } := by
  refine CompEnd.intro F N ((D2, o2) :: news) ?_ ⟨⟨l2.1.symm, l2.2.1.symm, l2.2.2.1.symm⟩, off⟩ hS r
  intro p hp
  rcases List.mem_cons.mp hp with rfl | hp
  · exact .tail _ (.head _)
  rcases List.mem_cons.mp hp with rfl | hp
  · exact .tail _ (.tail _ (.head _))
  rcases List.mem_cons.mp hp with rfl | hp
  · exact .tail _ (.tail _ (.tail _ (.head _)))
  rcases List.mem_cons.mp hp with rfl | hp
  · exact .head _
  · exact .tail _ (.tail _ (.tail _ (.tail _ hp)))
end
set_option maxHeartbeats 1500000 in
theorem ct_common {w mean mg mb} (x : Str) (t : Tok) (la : Addr) (n1 : Nat) (hx : x.length ≤ 1000) :
  Ct w mean mg mb 16 158 [.ref la] (fun news => (la, PySem.W.listOf [Value.str x t].toArray n1) ∈ news) (fun tl r => tl = [] ∧ ∃ t, r = .str (commonP x) t) := by
  unfold Ct
  k_fill
  intro dp un gd cn cs a ccd cl outer A₀ base h₀ L m news s Q E B F X N T hk hpre hdp hun hret
  refine wpAny_call ?_; k_dflt ((refine' code_defC ?k1 ?k2 ?k3 ?k4 ?k5 ?kA ?kF ?kK ?k6 ?k7 ?k8 ?k9 ?kB ?kD ?_ ?c2 ?c3 ?c4; (case kA => exact rfl); (case kF => exact rfl); (case kK => assumption); (case k1 => k_asm); (case k2 => k_asm); (case k3 => k_asm); (case k4 => k_asm); (case k5 => k_asm); (case k6 => k_is); (case k7 => k_is); (case k8 => ktr_room); (case k9 => exact BindsTo.of_eq rfl); (case kB => exact rfl); (case kD => decide); (case c2 => exact rfl); (case c3 => exact rfl); (case c4 => exact rfl)); intro g' L' h' tk' cells' FG' F' N' Y' B' X' T' l1; (try k_lt l1); k_cells Y'; (try simp only [List.cons_append, List.nil_append] at N'); (try dsimp only); (try k_fold))
  have q1 : ∀ p ∈ news, p.1 ≠ L' + 1 := fun p hp => Nat.ne_of_lt (Nat.lt_succ_of_lt (l1 p hp))
  have q2 : ∀ p ∈ news, p.1 ≠ L' + 1 + 1 := fun p hp => Nat.ne_of_lt (Nat.lt_succ_of_lt (Nat.lt_succ_of_lt (l1 p hp)))
  repeat' ((fail_if_success (with_reducible show wpAny _ _ (call (Value.type "map") _) _ _ _)); first | (k_unfold; (try dsimp only)) | ((with_reducible change (_ : Flow → Shared → Prop) _ _); k_unfold; (try dsimp only)) | (k_end; wrow_close) | ((with_reducible show wpAny _ _ (exec _ _) _ _ _); k_fold; walk1) | walk1 | (dsimp only; walk1) | (leave1; walk_say "STEP leave1"; try dsimp only) | fail "no step")
  refine' call_map (by k_asm) (by k_asm) ⟨_, News.get (by k_asm) (.tail _ (.tail _ hpre)), rfl, _, rfl⟩ ?_
  intro M9 T9 I9 h9 F9 N9 d1 d2 d3
  repeat' ((fail_if_success (with_reducible show wpAny _ _ (call (Value.type "tuple") _) _ _ _)); first | (k_unfold; (try dsimp only)) | ((with_reducible change (_ : Flow → Shared → Prop) _ _); k_unfold; (try dsimp only)) | (k_end; wrow_close) | ((with_reducible show wpAny _ _ (exec _ _) _ _ _); k_fold; walk1) | walk1 | (dsimp only; walk1) | (leave1; walk_say "STEP leave1"; try dsimp only) | fail "no step")
  refine' tuple_map (vs := [Value.str x t]) rfl (by show 1 ≤ sizeLine; decide) (by k_asm) N9 rfl rfl ?_ d1 d2 d3 ?_ ?_
  · exact fun h q => ⟨_, (q _ (.tail _ (.tail _ hpre))).1, rfl, _, rfl⟩
  · intro v hv lg s' Q' E' F1 N1 hq
    obtain rfl := List.mem_singleton.mp hv
    refine' Ct.use (ct_fspath x t) ?k1 ?k2 ?k3 ?k4 ?k5 ?kK ?kp ?kd ?ku ?_
    ((case k1 => k_asm); (case k2 => k_asm); (case k3 => k_asm); (case k4 => k_asm); (case k5 => k_asm); (case kK => first | exact rfl | assumption); (case kd => ktr_room); (case ku => ktr_units))
    case kp => trivial
    rintro r tl h2 tk2 F2 N2 ⟨rfl, rfl⟩
    exact hq _ _ F2 N2
  intro D8 h8 tk8 F8 N8 a8
  k_lt a8
  repeat' ((fail_if_success (with_reducible show wpAny _ _ (exec (Stmt.Assign _ (Expr.ListComp _ _ _ _) _) _) _ _ _)); first | (k_unfold; (try dsimp only)) | ((with_reducible change (_ : Flow → Shared → Prop) _ _); k_unfold; (try dsimp only)) | (k_end; wrow_close) | ((with_reducible show wpAny _ _ (exec _ _) _ _ _); k_fold; walk1) | walk1 | (dsimp only; walk1) | (leave1; walk_say "STEP leave1"; try dsimp only) | fail "no step")
  refine Assign_ListComp_Tup (F₀ := by k_asm) (by rfl) (by with_unfolding_all rfl) (by with_unfolding_all rfl) (by decide) (by rfl) (by decide) (by rfl) (by rfl) (by rfl) ?_
  repeat' ((fail_if_success (with_reducible show TSrc _ _ _ _ _ _ _ _ _ _ _ _ _ _)); first | (k_unfold; (try dsimp only)) | ((with_reducible change (_ : Flow → Shared → Prop) _ _); k_unfold; (try dsimp only)) | (k_end; wrow_close) | ((with_reducible show wpAny _ _ (exec _ _) _ _ _); k_fold; walk1) | walk1 | (dsimp only; walk1) | (leave1; walk_say "STEP leave1"; try dsimp only) | fail "no step")
  refine' ⟨_, _, _, rfl, rfl, (by k_asm), (by k_asm), ⟨_, (.head _), rfl, _, rfl⟩, (by show 1 ≤ sizeLine; decide), ?_⟩
  rintro s₂ ⟨g9, rfl⟩
  refine LCg.CompRest.succ ?_
  intro v I oI C oC D m₂ h tk E' hv hC hx2 F1 N1 off ne
  obtain rfl : Value.str x t = v := Option.some.inj hv
  repeat' ((fail_if_success (with_reducible show wpAny _ _ (call (Value.builtin "str.split") _) _ _ _)); first | (k_unfold; (try dsimp only)) | ((with_reducible change (_ : Flow → Shared → Prop) _ _); k_unfold; (try dsimp only)) | (k_end; wrow_close) | ((with_reducible show wpAny _ _ (exec _ _) _ _ _); k_fold; walk1) | walk1 | (dsimp only; walk1) | (leave1; walk_say "STEP leave1"; try dsimp only) | fail "no step")
  refine Mine.splitV (by k_asm) (by k_asm) (by decide) (by omega) ?_
  intro D2 vs2 ws2 h2 k2 se sa sb sc sd F2 N2 l2
  subst se
  (repeat' (first | (k_unfold; (try dsimp only)) | ((with_reducible change (_ : Flow → Shared → Prop) _ _); k_unfold; (try dsimp only)) | (k_end; wrow_close) | ((with_reducible show wpAny _ _ (exec _ _) _ _ _); k_fold; walk1) | walk1 | (dsimp only; walk1) | (leave1; walk_say "STEP leave1"; try dsimp only) | fail "no step"))
  refine cend (by k_asm) N2 l2 off ⟨_, .tail _ (.head _), rfl, _, rfl⟩ ?cr
  case cr =>
    refine LCg.CompRest.zero ?_
    intro D3 h3 tk3 F3 N3 off3
    dsimp only [LCg.lst, List.nil_append] at N3
    repeat' ((fail_if_success (with_reducible show wpAny _ _ (eval (Expr.SetComp _ _ _ _) _) _ _ _)); first | (k_unfold; (try dsimp only)) | ((with_reducible change (_ : Flow → Shared → Prop) _ _); k_unfold; (try dsimp only)) | (k_end; wrow_close) | ((with_reducible show wpAny _ _ (exec _ _) _ _ _); k_fold; walk1) | walk1 | (dsimp only; walk1) | (leave1; walk_say "STEP leave1"; try dsimp only) | fail "no step")
    refine SetComp_b (Txt.startswith x (Str.ofString "/")) (by k_asm) (by with_unfolding_all rfl) (by decide) (by rfl) (by decide) (by rfl) ?_
    repeat' ((fail_if_success (with_reducible show SetSrc _ _ _ _ _ _ _ _ _ _ _ _ _ _ _)); first | (k_unfold; (try dsimp only)) | ((with_reducible change (_ : Flow → Shared → Prop) _ _); k_unfold; (try dsimp only)) | (k_end; wrow_close) | ((with_reducible show wpAny _ _ (exec _ _) _ _ _); k_fold; walk1) | walk1 | (dsimp only; walk1) | (leave1; walk_say "STEP leave1"; try dsimp only) | fail "no step")
    refine' ⟨_, _, _, rfl, rfl, (by k_asm), (by k_asm), ⟨_, (.tail _ (.tail _ (.head _))), rfl, _, rfl⟩, (by show 1 ≤ 1; decide), ?_, ?_⟩
    · intro i v I oI C oC D oD m₂ h tk E' hv hC hx2 F1 N1 off ne
      obtain rfl : Value.str x t = v := by
        match i, hv with
        | 0, hv => exact Option.some.inj hv
      (repeat' (first | (k_unfold; (try dsimp only)) | ((with_reducible change (_ : Flow → Shared → Prop) _ _); k_unfold; (try dsimp only)) | (k_end; wrow_close) | ((with_reducible show wpAny _ _ (exec _ _) _ _ _); k_fold; walk1) | walk1 | (dsimp only; walk1) | (leave1; walk_say "STEP leave1"; try dsimp only) | fail "no step"))
      all_goals k_asm
    · intro D4 oD4 h4 tk4 hO F4 N4 off4
      repeat' ((fail_if_success (with_reducible show wpAny _ _ (assign (Expr.Tuple _ _ _) _ _) _ _ _)); first | (k_unfold; (try dsimp only)) | ((with_reducible change (_ : Flow → Shared → Prop) _ _); k_unfold; (try dsimp only)) | (k_end; wrow_close) | ((with_reducible show wpAny _ _ (exec _ _) _ _ _); k_fold; walk1) | walk1 | (dsimp only; walk1) | (leave1; walk_say "STEP leave1"; try dsimp only) | fail "no step")
      refine assign_set1 rfl (by k_asm) (by k_asm) (.head _) hO (by rfl) (by rfl) ?_
      intro h5 F5 N5
      repeat' ((fail_if_success (with_reducible show wpAny _ _ (eval (PySem.Expr.ListComp _ _ _ _) _) _ _ _)); first | (k_unfold; (try dsimp only)) | ((with_reducible change (_ : Flow → Shared → Prop) _ _); k_unfold; (try dsimp only)) | (k_end; wrow_close) | ((with_reducible show wpAny _ _ (exec _ _) _ _ _); k_fold; walk1) | walk1 | (dsimp only; walk1) | (leave1; walk_say "STEP leave1"; try dsimp only) | fail "no step")
      refine LCt.ListComp_T (by k_asm) (by with_unfolding_all rfl) (by decide) (by rfl) (by decide) (by rfl) ?_
      repeat' ((fail_if_success (with_reducible show LCt.CompSrcT _ _ _ _ _ _ _ _ _ _ _ _ _ _ _)); first | (k_unfold; (try dsimp only)) | ((with_reducible change (_ : Flow → Shared → Prop) _ _); k_unfold; (try dsimp only)) | (k_end; wrow_close) | ((with_reducible show wpAny _ _ (exec _ _) _ _ _); k_fold; walk1) | walk1 | (dsimp only; walk1) | (leave1; walk_say "STEP leave1"; try dsimp only) | fail "no step")
      refine srcT_led rfl (by k_asm) (by k_asm) (by k_mem) (by rw [sa.length]; omega) (fun g9 => restT_strs sa (fun z => z != Str.ofString "" && z != Str.ofString ".") (fun z => z) ?_ ?_)
      · intro z t9 I oI C oC D m₂ ys h tk E' R R2 hz hC hx2 F1 N1 off ne hp1 hp2
        (repeat' (first | (k_unfold; (try dsimp only)) | ((with_reducible change (_ : Flow → Shared → Prop) _ _); k_unfold; (try dsimp only)) | (k_end; wrow_close) | ((with_reducible show wpAny _ _ (exec _ _) _ _ _); k_fold; walk1) | walk1 | (dsimp only; walk1) | (leave1; walk_say "STEP leave1"; try dsimp only) | fail "no step"))
        · (refine LCg.CompEnd.intro (by k_asm) (by k_asm) _ (fun p hp => hp) (by assumption) (.inr ⟨_, by k_mem, rfl, _, rfl⟩) ?_)
          exact hp1 (cmp_t (by assumption) (by assumption)) _
        · (refine LCg.CompEnd.intro (by k_asm) (by k_asm) _ (fun p hp => hp) (by assumption) (.inr ⟨_, by k_mem, rfl, _, rfl⟩) ?_)
          exact hp2 (cmp_f1 (by assumption))
        · (refine LCg.CompEnd.intro (by k_asm) (by k_asm) _ (fun p hp => hp) (by assumption) (.inr ⟨_, by k_mem, rfl, _, rfl⟩) ?_)
          exact hp2 (cmp_f2 (by assumption))
      · intro ys hys D h tk F1 N1 off
        refine cendO (by k_asm) (by k_asm) off (by assumption) (.inr ⟨_, by k_mem, rfl, _, rfl⟩) ?cr
        case cr =>
          repeat' ((fail_if_success (with_reducible show wpAny _ _ (call (Value.builtin "min") _) _ _ _)); first | (k_unfold; (try dsimp only)) | ((with_reducible change (_ : Flow → Shared → Prop) _ _); k_unfold; (try dsimp only)) | (k_end; wrow_close) | ((with_reducible show wpAny _ _ (exec _ _) _ _ _); k_fold; walk1) | walk1 | (dsimp only; walk1) | (leave1; walk_say "STEP leave1"; try dsimp only) | fail "no step")
          refine min_first (vs := []) rfl (by k_asm) (by k_asm) (.head _) (fun v hv => nomatch hv) ?_
          intro h6 tk6 F6 N6
          repeat' ((fail_if_success (with_reducible show wpAny _ _ (call (Value.builtin "max") _) _ _ _)); first | (k_unfold; (try dsimp only)) | ((with_reducible change (_ : Flow → Shared → Prop) _ _); k_unfold; (try dsimp only)) | (k_end; wrow_close) | ((with_reducible show wpAny _ _ (exec _ _) _ _ _); k_fold; walk1) | walk1 | (dsimp only; walk1) | (leave1; walk_say "STEP leave1"; try dsimp only) | fail "no step")
          refine max_first (vs := []) rfl (by k_asm) (by k_asm) (.head _) (fun v hv => nomatch hv) ?_
          intro h7 tk7 F7 N7
          repeat' ((fail_if_success (with_reducible show wpAny _ _ (exec (Stmt.For _ _ _ _ _) _) _ _ _)); first | (k_unfold; (try dsimp only)) | ((with_reducible change (_ : Flow → Shared → Prop) _ _); k_unfold; (try dsimp only)) | (k_end; wrow_close) | ((with_reducible show wpAny _ _ (exec _ _) _ _ _); k_fold; walk1) | walk1 | (dsimp only; walk1) | (leave1; walk_say "STEP leave1"; try dsimp only) | fail "no step")
          (rename Fr _ _ _ _ => F'); refine For_pair3F F' rfl (by rfl) (by rfl) (by rfl) ?_ (by intro _; rfl)
          repeat' ((fail_if_success (with_reducible show wpAny _ _ (call (Value.type "enumerate") _) _ _ _)); first | (k_unfold; (try dsimp only)) | ((with_reducible change (_ : Flow → Shared → Prop) _ _); k_unfold; (try dsimp only)) | (k_end; wrow_close) | ((with_reducible show wpAny _ _ (exec _ _) _ _ _); k_fold; walk1) | walk1 | (dsimp only; walk1) | (leave1; walk_say "STEP leave1"; try dsimp only) | fail "no step")
          have hcs := comps_strs hys
          have hcb : ∀ z ∈ comps x, z.length ≤ 5000 := comps_len fun z hz => Nat.le_trans (sb z hz) (Nat.le_trans hx (by decide))
          have hcl : (comps x).length ≤ 3000 := comps_le (by omega)
          clear hys
          refine enumQuiet rfl (by k_asm) (by k_asm) (by k_mem) ?et ?ed
          case et =>
            intro i v t9 u h tk own hv F1 N1
            obtain ⟨z, tz, rfl, hz⟩ := hcs.item i v hv
            have hil : i < (comps x).length := (List.getElem?_eq_some_iff.mp hz).1
            have hgd : (comps x).getD ((i : Nat) : Int).toNat Str.empty = z := by rw [Int.toNat_natCast, List.getD_eq_getElem?_getD, hz]; rfl
            (repeat' (first | (k_unfold; (try dsimp only)) | ((with_reducible change (_ : Flow → Shared → Prop) _ _); k_unfold; (try dsimp only)) | (k_end; wrow_close) | ((with_reducible show wpAny _ _ (exec _ _) _ _ _); k_fold; walk1) | walk1 | (dsimp only; walk1) | (leave1; walk_say "STEP leave1"; try dsimp only) | fail "no step"))
            · exfalso
              have hne : (z != (comps x).getD ((i : Nat) : Int).toNat Str.empty) = true := by assumption
              rw [hgd] at hne
              simp at hne
            · refine QEnd.intro (by k_asm) (by k_asm) ?_
              intro q h1 h2
              have e1 : ([Str.ofString "i", Str.ofString "c"].contains q) = false := by simp [h1, h2]
              simp only [h1, h2, e1, if_false, Bool.false_eq_true]
              try rfl
          case ed =>
            intro u h tk F1 N1
            (repeat' (first | (k_unfold; (try dsimp only)) | ((with_reducible change (_ : Flow → Shared → Prop) _ _); k_unfold; (try dsimp only)) | (k_end; wrow_close) | ((with_reducible show wpAny _ _ (exec _ _) _ _ _); k_fold; walk1) | walk1 | (dsimp only; walk1) | (leave1; walk_say "STEP leave1"; try dsimp only) | fail "no step"))
            · refine hret _ [] _ _ (by k_asm) (cb_drop (by k_asm) (by intro p hp; (try simp only [List.append_assoc, List.nil_append, List.cons_append, List.mem_cons, List.mem_append, List.not_mem_nil, or_false, false_or] at hp ⊢); first | exact hp | (simp only [hp, true_or, or_true]; done) | (rcases hp with hp | hp <;> simp only [hp, true_or, or_true] <;> done) | grind)) ⟨rfl, _, congrArg (fun q => Value.str q _) ?_⟩
              unfold commonP
              rw [if_pos (by assumption)]
              exact congrArg (fun q => _ ++ q) (by assumption)
            · refine hret _ [] _ _ (by k_asm) (cb_drop (by k_asm) (by intro p hp; (try simp only [List.append_assoc, List.nil_append, List.cons_append, List.mem_cons, List.mem_append, List.not_mem_nil, or_false, false_or] at hp ⊢); first | exact hp | (simp only [hp, true_or, or_true]; done) | (rcases hp with hp | hp <;> simp only [hp, true_or, or_true] <;> done) | grind)) ⟨rfl, _, congrArg (fun q => Value.str q _) ?_⟩
              unfold commonP
              rw [if_neg (Bool.eq_false_iff.mp (by assumption))]
              exact congrArg (fun q => _ ++ q) (by assumption)
end Mine

theorem Mine.quietK2 : True := by
  w_top off
  trivial
local macro_rules | `(tactic| walk_at "exec Try") => `(tactic| ((with_reducible show wpAny _ _ (exec (Stmt.Try _ (_ :: _) _ [] _) (envOfC _ _ _ _ _)) _ _ _); refine wpAny_Try_except ?_))
namespace Mine
set_option maxHeartbeats 2500000 in
theorem ct_common2 {w mean mg mb} (x y : Str) (t u : Tok) (la : Addr) (n1 : Nat) (hx : x.length ≤ 1000) (hy : y.length ≤ 1000) (hcc : comps y = comps x) (hst : Txt.startswith y (Str.ofString "/") = Txt.startswith x (Str.ofString "/")) :
  Ct w mean mg mb 16 158 [.ref la] (fun news => (la, PySem.W.listOf [Value.str x t, Value.str y u].toArray n1) ∈ news) (fun tl r => tl = [] ∧ ∃ t, r = .str (commonP x) t) := by
  unfold Ct
  k_fill
  intro dp un gd cn cs a ccd cl outer A₀ base h₀ L m news s Q E B F X N T hk hpre hdp hun hret
  refine wpAny_call ?_; k_dflt ((refine' code_defC ?k1 ?k2 ?k3 ?k4 ?k5 ?kA ?kF ?kK ?k6 ?k7 ?k8 ?k9 ?kB ?kD ?_ ?c2 ?c3 ?c4; (case kA => exact rfl); (case kF => exact rfl); (case kK => assumption); (case k1 => k_asm); (case k2 => k_asm); (case k3 => k_asm); (case k4 => k_asm); (case k5 => k_asm); (case k6 => k_is); (case k7 => k_is); (case k8 => ktr_room); (case k9 => exact BindsTo.of_eq rfl); (case kB => exact rfl); (case kD => decide); (case c2 => exact rfl); (case c3 => exact rfl); (case c4 => exact rfl)); intro g' L' h' tk' cells' FG' F' N' Y' B' X' T' l1; (try k_lt l1); k_cells Y'; (try simp only [List.cons_append, List.nil_append] at N'); (try dsimp only); (try k_fold))
  have q1 : ∀ p ∈ news, p.1 ≠ L' + 1 := fun p hp => Nat.ne_of_lt (Nat.lt_succ_of_lt (l1 p hp))
  have q2 : ∀ p ∈ news, p.1 ≠ L' + 1 + 1 := fun p hp => Nat.ne_of_lt (Nat.lt_succ_of_lt (Nat.lt_succ_of_lt (l1 p hp)))
  repeat' ((fail_if_success (with_reducible show wpAny _ _ (call (Value.type "map") _) _ _ _)); first | (k_unfold; (try dsimp only)) | ((with_reducible change (_ : Flow → Shared → Prop) _ _); k_unfold; (try dsimp only)) | (k_end; wrow_close) | ((with_reducible show wpAny _ _ (exec _ _) _ _ _); k_fold; walk1) | walk1 | (dsimp only; walk1) | (leave1; walk_say "STEP leave1"; try dsimp only) | fail "no step")
  refine' call_map (by k_asm) (by k_asm) ⟨_, News.get (by k_asm) (.tail _ (.tail _ hpre)), rfl, _, rfl⟩ ?_
  intro M9 T9 I9 h9 F9 N9 d1 d2 d3
  repeat' ((fail_if_success (with_reducible show wpAny _ _ (call (Value.type "tuple") _) _ _ _)); first | (k_unfold; (try dsimp only)) | ((with_reducible change (_ : Flow → Shared → Prop) _ _); k_unfold; (try dsimp only)) | (k_end; wrow_close) | ((with_reducible show wpAny _ _ (exec _ _) _ _ _); k_fold; walk1) | walk1 | (dsimp only; walk1) | (leave1; walk_say "STEP leave1"; try dsimp only) | fail "no step")
  refine' tuple_map (vs := [Value.str x t, Value.str y u]) rfl (by show 2 ≤ sizeLine; decide) (by k_asm) N9 rfl rfl ?_ d1 d2 d3 ?_ ?_
  · exact fun h q => ⟨_, (q _ (.tail _ (.tail _ hpre))).1, rfl, _, rfl⟩
  · intro v hv lg s' Q' E' F1 N1 hq
    obtain ⟨z, tz, rfl⟩ : ∃ z tz, v = Value.str z tz := by
      rcases List.mem_cons.mp hv with rfl | hv
      · exact ⟨_, _, rfl⟩
      · exact ⟨_, _, List.mem_singleton.mp hv⟩
    refine' Ct.use (ct_fspath z tz) ?k1 ?k2 ?k3 ?k4 ?k5 ?kK ?kp ?kd ?ku ?_
    ((case k1 => k_asm); (case k2 => k_asm); (case k3 => k_asm); (case k4 => k_asm); (case k5 => k_asm); (case kK => first | exact rfl | assumption); (case kd => ktr_room); (case ku => ktr_units))
    case kp => trivial
    rintro r tl h2 tk2 F2 N2 ⟨rfl, rfl⟩
    exact hq _ _ F2 N2
  intro D8 h8 tk8 F8 N8 a8
  k_lt a8
  repeat' ((fail_if_success (with_reducible show wpAny _ _ (exec (Stmt.Assign _ (Expr.ListComp _ _ _ _) _) _) _ _ _)); first | (k_unfold; (try dsimp only)) | ((with_reducible change (_ : Flow → Shared → Prop) _ _); k_unfold; (try dsimp only)) | (k_end; wrow_close) | ((with_reducible show wpAny _ _ (exec _ _) _ _ _); k_fold; walk1) | walk1 | (dsimp only; walk1) | (leave1; walk_say "STEP leave1"; try dsimp only) | fail "no step")
  refine Assign_ListComp_Tup (F₀ := by k_asm) (by rfl) (by with_unfolding_all rfl) (by with_unfolding_all rfl) (by decide) (by rfl) (by decide) (by rfl) (by rfl) (by rfl) ?_
  repeat' ((fail_if_success (with_reducible show TSrc _ _ _ _ _ _ _ _ _ _ _ _ _ _)); first | (k_unfold; (try dsimp only)) | ((with_reducible change (_ : Flow → Shared → Prop) _ _); k_unfold; (try dsimp only)) | (k_end; wrow_close) | ((with_reducible show wpAny _ _ (exec _ _) _ _ _); k_fold; walk1) | walk1 | (dsimp only; walk1) | (leave1; walk_say "STEP leave1"; try dsimp only) | fail "no step")
  refine' ⟨_, _, _, rfl, rfl, (by k_asm), (by k_asm), ⟨_, (.head _), rfl, _, rfl⟩, (by show 2 ≤ sizeLine; decide), ?_⟩
  rintro s₂ ⟨g9, rfl⟩
  refine LCg.CompRest.succ ?_
  intro v I oI C oC D m₂ h tk E' hv hC hx2 F1 N1 off ne
  obtain rfl : Value.str x t = v := Option.some.inj hv
  repeat' ((fail_if_success (with_reducible show wpAny _ _ (call (Value.builtin "str.split") _) _ _ _)); first | (k_unfold; (try dsimp only)) | ((with_reducible change (_ : Flow → Shared → Prop) _ _); k_unfold; (try dsimp only)) | (k_end; wrow_close) | ((with_reducible show wpAny _ _ (exec _ _) _ _ _); k_fold; walk1) | walk1 | (dsimp only; walk1) | (leave1; walk_say "STEP leave1"; try dsimp only) | fail "no step")
  refine Mine.splitV (by k_asm) (by k_asm) (by decide) (by omega) ?_
  intro D2 vs2 ws2 h2 k2 se sa sb sc sd F2 N2 l2
  subst se
  (repeat' (first | (k_unfold; (try dsimp only)) | ((with_reducible change (_ : Flow → Shared → Prop) _ _); k_unfold; (try dsimp only)) | (k_end; wrow_close) | ((with_reducible show wpAny _ _ (exec _ _) _ _ _); k_fold; walk1) | walk1 | (dsimp only; walk1) | (leave1; walk_say "STEP leave1"; try dsimp only) | fail "no step"))
  refine cend (by k_asm) N2 l2 off ⟨_, .tail _ (.head _), rfl, _, rfl⟩ ?cr0
  case cr0 =>
  refine LCg.CompRest.succ ?_
  intro v I oI C oC D m₂ h tk E' hv hC hx2 F1 N1 off ne
  obtain rfl : Value.str y u = v := Option.some.inj hv
  repeat' ((fail_if_success (with_reducible show wpAny _ _ (call (Value.builtin "str.split") _) _ _ _)); first | (k_unfold; (try dsimp only)) | ((with_reducible change (_ : Flow → Shared → Prop) _ _); k_unfold; (try dsimp only)) | (k_end; wrow_close) | ((with_reducible show wpAny _ _ (exec _ _) _ _ _); k_fold; walk1) | walk1 | (dsimp only; walk1) | (leave1; walk_say "STEP leave1"; try dsimp only) | fail "no step")
  refine Mine.splitV (by k_asm) (by k_asm) (by decide) (by omega) ?_
  intro D2b vs2b ws2b h2 k2 se sab sbb scb sdb F2 N2 l2
  subst se
  (repeat' (first | (k_unfold; (try dsimp only)) | ((with_reducible change (_ : Flow → Shared → Prop) _ _); k_unfold; (try dsimp only)) | (k_end; wrow_close) | ((with_reducible show wpAny _ _ (exec _ _) _ _ _); k_fold; walk1) | walk1 | (dsimp only; walk1) | (leave1; walk_say "STEP leave1"; try dsimp only) | fail "no step"))
  refine cend (by k_asm) N2 l2 off ⟨_, .tail _ (.tail _ (.head _)), rfl, _, rfl⟩ ?cr
  case cr =>
    refine LCg.CompRest.zero ?_
    intro D3 h3 tk3 F3 N3 off3
    dsimp only [LCg.lst, List.nil_append, List.cons_append] at N3
    repeat' ((fail_if_success (with_reducible show wpAny _ _ (eval (Expr.SetComp _ _ _ _) _) _ _ _)); first | (k_unfold; (try dsimp only)) | ((with_reducible change (_ : Flow → Shared → Prop) _ _); k_unfold; (try dsimp only)) | (k_end; wrow_close) | ((with_reducible show wpAny _ _ (exec _ _) _ _ _); k_fold; walk1) | walk1 | (dsimp only; walk1) | (leave1; walk_say "STEP leave1"; try dsimp only) | fail "no step")
    refine SetComp_b (Txt.startswith x (Str.ofString "/")) (by k_asm) (by with_unfolding_all rfl) (by decide) (by rfl) (by decide) (by rfl) ?_
    repeat' ((fail_if_success (with_reducible show SetSrc _ _ _ _ _ _ _ _ _ _ _ _ _ _ _)); first | (k_unfold; (try dsimp only)) | ((with_reducible change (_ : Flow → Shared → Prop) _ _); k_unfold; (try dsimp only)) | (k_end; wrow_close) | ((with_reducible show wpAny _ _ (exec _ _) _ _ _); k_fold; walk1) | walk1 | (dsimp only; walk1) | (leave1; walk_say "STEP leave1"; try dsimp only) | fail "no step")
    refine' ⟨_, _, _, rfl, rfl, (by k_asm), (by k_asm), ⟨_, (.tail _ (.tail _ (.tail _ (.head _)))), rfl, _, rfl⟩, (by show 1 ≤ 2; decide), ?_, ?_⟩
    · intro i v I oI C oC D oD m₂ h tk E' hv hC hx2 F1 N1 off ne
      obtain ⟨z, tz, rfl, hz⟩ : ∃ z tz, v = Value.str z tz ∧ Txt.startswith z (Str.ofString "/") = Txt.startswith x (Str.ofString "/") := by
        match i, hv with
        | 0, hv => exact ⟨x, t, (Option.some.inj hv).symm, rfl⟩
        | 1, hv => exact ⟨y, u, (Option.some.inj hv).symm, hst⟩
      rw [← hz]
      (repeat' (first | (k_unfold; (try dsimp only)) | ((with_reducible change (_ : Flow → Shared → Prop) _ _); k_unfold; (try dsimp only)) | (k_end; wrow_close) | ((with_reducible show wpAny _ _ (exec _ _) _ _ _); k_fold; walk1) | walk1 | (dsimp only; walk1) | (leave1; walk_say "STEP leave1"; try dsimp only) | fail "no step"))
      all_goals k_asm
    · intro D4 oD4 h4 tk4 hO F4 N4 off4
      repeat' ((fail_if_success (with_reducible show wpAny _ _ (assign (Expr.Tuple _ _ _) _ _) _ _ _)); first | (k_unfold; (try dsimp only)) | ((with_reducible change (_ : Flow → Shared → Prop) _ _); k_unfold; (try dsimp only)) | (k_end; wrow_close) | ((with_reducible show wpAny _ _ (exec _ _) _ _ _); k_fold; walk1) | walk1 | (dsimp only; walk1) | (leave1; walk_say "STEP leave1"; try dsimp only) | fail "no step")
      refine assign_set1 rfl (by k_asm) (by k_asm) (.head _) hO (by rfl) (by rfl) ?_
      intro h5 F5 N5
      repeat' ((fail_if_success (with_reducible show wpAny _ _ (eval (PySem.Expr.ListComp _ _ _ _) _) _ _ _)); first | (k_unfold; (try dsimp only)) | ((with_reducible change (_ : Flow → Shared → Prop) _ _); k_unfold; (try dsimp only)) | (k_end; wrow_close) | ((with_reducible show wpAny _ _ (exec _ _) _ _ _); k_fold; walk1) | walk1 | (dsimp only; walk1) | (leave1; walk_say "STEP leave1"; try dsimp only) | fail "no step")
      refine LCt.ListComp_T (by k_asm) (by with_unfolding_all rfl) (by decide) (by rfl) (by decide) (by rfl) ?_
      repeat' ((fail_if_success (with_reducible show LCt.CompSrcT _ _ _ _ _ _ _ _ _ _ _ _ _ _ _)); first | (k_unfold; (try dsimp only)) | ((with_reducible change (_ : Flow → Shared → Prop) _ _); k_unfold; (try dsimp only)) | (k_end; wrow_close) | ((with_reducible show wpAny _ _ (exec _ _) _ _ _); k_fold; walk1) | walk1 | (dsimp only; walk1) | (leave1; walk_say "STEP leave1"; try dsimp only) | fail "no step")
      refine srcT_led rfl (by k_asm) (by k_asm) (by k_mem) (by rw [sa.length]; omega) (fun g9 => restT_strs sa (fun z => z != Str.ofString "" && z != Str.ofString ".") (fun z => z) ?_ ?_)
      · intro z t9 I oI C oC D m₂ ys h tk E' R R2 hz hC hx2 F1 N1 off ne hp1 hp2
        have hzl : z.length ≤ x.length := sb z hz
        (repeat' (first | (k_unfold; (try dsimp only)) | ((with_reducible change (_ : Flow → Shared → Prop) _ _); k_unfold; (try dsimp only)) | (k_end; wrow_close) | ((with_reducible show wpAny _ _ (exec _ _) _ _ _); k_fold; walk1) | walk1 | (dsimp only; walk1) | (leave1; walk_say "STEP leave1"; try dsimp only) | fail "no step"))
        · (refine LCg.CompEnd.intro (by k_asm) (by k_asm) _ (fun p hp => hp) (by assumption) (.inr ⟨_, by k_mem, rfl, _, rfl⟩) ?_)
          exact hp1 (cmp_t (by assumption) (by assumption)) _
        · (refine LCg.CompEnd.intro (by k_asm) (by k_asm) _ (fun p hp => hp) (by assumption) (.inr ⟨_, by k_mem, rfl, _, rfl⟩) ?_)
          exact hp2 (cmp_f1 (by assumption))
        · (refine LCg.CompEnd.intro (by k_asm) (by k_asm) _ (fun p hp => hp) (by assumption) (.inr ⟨_, by k_mem, rfl, _, rfl⟩) ?_)
          exact hp2 (cmp_f2 (by assumption))
      intro ys hys D h tk F1 N1 off
      refine cendO (by k_asm) (by k_asm) off (by assumption) (.inr ⟨_, by k_mem, rfl, _, rfl⟩) ?cr1
      case cr1 =>
      repeat' ((fail_if_success (with_reducible show wpAny _ _ (eval (PySem.Expr.ListComp _ _ _ _) _) _ _ _)); first | (k_unfold; (try dsimp only)) | ((with_reducible change (_ : Flow → Shared → Prop) _ _); k_unfold; (try dsimp only)) | (k_end; wrow_close) | ((with_reducible show wpAny _ _ (exec _ _) _ _ _); k_fold; walk1) | walk1 | (dsimp only; walk1) | (leave1; walk_say "STEP leave1"; try dsimp only) | fail "no step")
      refine LCt.ListComp_T (by k_asm) (by with_unfolding_all rfl) (by decide) (by rfl) (by decide) (by rfl) ?_
      repeat' ((fail_if_success (with_reducible show LCt.CompSrcT _ _ _ _ _ _ _ _ _ _ _ _ _ _ _)); first | (k_unfold; (try dsimp only)) | ((with_reducible change (_ : Flow → Shared → Prop) _ _); k_unfold; (try dsimp only)) | (k_end; wrow_close) | ((with_reducible show wpAny _ _ (exec _ _) _ _ _); k_fold; walk1) | walk1 | (dsimp only; walk1) | (leave1; walk_say "STEP leave1"; try dsimp only) | fail "no step")
      refine srcT_led rfl (by k_asm) (by k_asm) (by k_mem) (by rw [sab.length]; omega) (fun g9 => restT_strs sab (fun z => z != Str.ofString "" && z != Str.ofString ".") (fun z => z) ?_ ?_)
      · intro z t9 I oI C oC D m₂ ys h tk E' R R2 hz hC hx2 F1 N1 off ne hp1 hp2
        have hzl : z.length ≤ y.length := sbb z hz
        (repeat' (first | (k_unfold; (try dsimp only)) | ((with_reducible change (_ : Flow → Shared → Prop) _ _); k_unfold; (try dsimp only)) | (k_end; wrow_close) | ((with_reducible show wpAny _ _ (exec _ _) _ _ _); k_fold; walk1) | walk1 | (dsimp only; walk1) | (leave1; walk_say "STEP leave1"; try dsimp only) | fail "no step"))
        · (refine LCg.CompEnd.intro (by k_asm) (by k_asm) _ (fun p hp => hp) (by assumption) (.inr ⟨_, by k_mem, rfl, _, rfl⟩) ?_)
          exact hp1 (cmp_t (by assumption) (by assumption)) _
        · (refine LCg.CompEnd.intro (by k_asm) (by k_asm) _ (fun p hp => hp) (by assumption) (.inr ⟨_, by k_mem, rfl, _, rfl⟩) ?_)
          exact hp2 (cmp_f1 (by assumption))
        · (refine LCg.CompEnd.intro (by k_asm) (by k_asm) _ (fun p hp => hp) (by assumption) (.inr ⟨_, by k_mem, rfl, _, rfl⟩) ?_)
          exact hp2 (cmp_f2 (by assumption))
      · intro ysb hysb Db h tk F1 N1 off
        dsimp only [List.nil_append, List.cons_append]
        refine' cendO ?cF ?cN ?cl ?co ?cs ?cr
        case cF => k_asm
        case cN => k_asm
        case cl => exact off
        case co => assumption
        case cs => exact .inr ⟨_, by k_mem, rfl, _, rfl⟩
        case cr =>
          have hcs := comps_strs hys
          have hcs2 := comps_strs hysb
          rw [hcc] at hcs2
          have hcb : ∀ z ∈ comps x, z.length ≤ 5000 := comps_len fun z hz => Nat.le_trans (sb z hz) (Nat.le_trans hx (by decide))
          have hcl : (comps x).length ≤ 3000 := comps_le (by omega)
          clear hys hysb
          repeat' ((fail_if_success (with_reducible show wpAny _ _ (call (Value.builtin "min") _) _ _ _)); first | (k_unfold; (try dsimp only)) | ((with_reducible change (_ : Flow → Shared → Prop) _ _); k_unfold; (try dsimp only)) | (k_end; wrow_close) | ((with_reducible show wpAny _ _ (exec _ _) _ _ _); k_fold; walk1) | walk1 | (dsimp only; walk1) | (leave1; walk_say "STEP leave1"; try dsimp only) | fail "no step")
          refine min_first (vs := [_]) rfl (by k_asm) (by k_asm) (.head _) ?_ ?_
          · intro v hv s' Q' E' F1 N1 hq
            obtain rfl := List.mem_singleton.mp hv
            exact min_lists N1 (by k_mem) (by k_mem) hcs2 hcs (by ktr_units) hq
          intro h6 tk6 F6 N6
          repeat' ((fail_if_success (with_reducible show wpAny _ _ (call (Value.builtin "max") _) _ _ _)); first | (k_unfold; (try dsimp only)) | ((with_reducible change (_ : Flow → Shared → Prop) _ _); k_unfold; (try dsimp only)) | (k_end; wrow_close) | ((with_reducible show wpAny _ _ (exec _ _) _ _ _); k_fold; walk1) | walk1 | (dsimp only; walk1) | (leave1; walk_say "STEP leave1"; try dsimp only) | fail "no step")
          refine max_first (vs := [_]) rfl (by k_asm) (by k_asm) (.head _) ?_ ?_
          · intro v hv s' Q' E' F1 N1 hq
            obtain rfl := List.mem_singleton.mp hv
            exact max_lists N1 (by k_mem) (by k_mem) hcs2 hcs (by ktr_units) hq
          intro h7 tk7 F7 N7
          repeat' ((fail_if_success (with_reducible show wpAny _ _ (exec (Stmt.For _ _ _ _ _) _) _ _ _)); first | (k_unfold; (try dsimp only)) | ((with_reducible change (_ : Flow → Shared → Prop) _ _); k_unfold; (try dsimp only)) | (k_end; wrow_close) | ((with_reducible show wpAny _ _ (exec _ _) _ _ _); k_fold; walk1) | walk1 | (dsimp only; walk1) | (leave1; walk_say "STEP leave1"; try dsimp only) | fail "no step")
          (rename Fr _ _ _ _ => F'); refine For_pair3F F' rfl (by rfl) (by rfl) (by rfl) ?_ (by intro _; rfl)
          repeat' ((fail_if_success (with_reducible show wpAny _ _ (call (Value.type "enumerate") _) _ _ _)); first | (k_unfold; (try dsimp only)) | ((with_reducible change (_ : Flow → Shared → Prop) _ _); k_unfold; (try dsimp only)) | (k_end; wrow_close) | ((with_reducible show wpAny _ _ (exec _ _) _ _ _); k_fold; walk1) | walk1 | (dsimp only; walk1) | (leave1; walk_say "STEP leave1"; try dsimp only) | fail "no step")
          refine enumQuiet rfl (by k_asm) (by k_asm) (by k_mem) ?et ?ed
          case et =>
            intro i v t9 u h tk own hv F1 N1
            obtain ⟨z, tz, rfl, hz⟩ := hcs.item i v hv
            have hil : i < (comps x).length := (List.getElem?_eq_some_iff.mp hz).1
            have hgd : (comps x).getD ((i : Nat) : Int).toNat Str.empty = z := by rw [Int.toNat_natCast, List.getD_eq_getElem?_getD, hz]; rfl
            (repeat' (first | (k_unfold; (try dsimp only)) | ((with_reducible change (_ : Flow → Shared → Prop) _ _); k_unfold; (try dsimp only)) | (k_end; wrow_close) | ((with_reducible show wpAny _ _ (exec _ _) _ _ _); k_fold; walk1) | walk1 | (dsimp only; walk1) | (leave1; walk_say "STEP leave1"; try dsimp only) | fail "no step"))
            · exfalso
              have hne : (z != (comps x).getD ((i : Nat) : Int).toNat Str.empty) = true := by assumption
              rw [hgd] at hne
              simp at hne
            · refine QEnd.intro (by k_asm) (by k_asm) ?_
              intro q h1 h2
              have e1 : ([Str.ofString "i", Str.ofString "c"].contains q) = false := by simp [h1, h2]
              simp only [h1, h2, e1, if_false, Bool.false_eq_true]
              try rfl
          case ed =>
            intro u h tk F1 N1
            (repeat' (first | (k_unfold; (try dsimp only)) | ((with_reducible change (_ : Flow → Shared → Prop) _ _); k_unfold; (try dsimp only)) | (k_end; wrow_close) | ((with_reducible show wpAny _ _ (exec _ _) _ _ _); k_fold; walk1) | walk1 | (dsimp only; walk1) | (leave1; walk_say "STEP leave1"; try dsimp only) | fail "no step"))
            · refine hret _ [] _ _ (by k_asm) (cb_drop (by k_asm) (by intro p hp; (try simp only [List.append_assoc, List.nil_append, List.cons_append, List.mem_cons, List.mem_append, List.not_mem_nil, or_false, false_or] at hp ⊢); first | exact hp | (simp only [hp, true_or, or_true]; done) | (rcases hp with hp | hp <;> simp only [hp, true_or, or_true] <;> done) | grind)) ⟨rfl, _, congrArg (fun q => Value.str q _) ?_⟩
              unfold commonP
              rw [if_pos (by assumption)]
              exact congrArg (fun q => _ ++ q) (by assumption)
            · refine hret _ [] _ _ (by k_asm) (cb_drop (by k_asm) (by intro p hp; (try simp only [List.append_assoc, List.nil_append, List.cons_append, List.mem_cons, List.mem_append, List.not_mem_nil, or_false, false_or] at hp ⊢); first | exact hp | (simp only [hp, true_or, or_true]; done) | (rcases hp with hp | hp <;> simp only [hp, true_or, or_true] <;> done) | grind)) ⟨rfl, _, congrArg (fun q => Value.str q _) ?_⟩
              unfold commonP
              rw [if_neg (Bool.eq_false_iff.mp (by assumption))]
              exact congrArg (fun q => _ ++ q) (by assumption)
end Mine

theorem Mine.quietQ1 : True := by
  w_top off
  trivial
namespace Mine
section
open PySem.W
def XRec (h : Heap) (e : Addr) (cls : Value) (vs : List Value) : Prop := ∃ ob, h.get? e = some ob ∧ ob.cls = cls ∧ ob.data = .fields vs.toArray
structure EO (base : Heap) (l : List Env) (e T : Addr) (cls : Value) (vs : List Value) (fl : Value) (h : Heap) : Prop where
  stay : base.StaysIn h
  fe : base.get? e = none
  fT : base.get? T = none
  fr : h.FunFrames base l
  ex : XRec h e cls vs
  one : vs[1]? = some (.ref T)
  tr : ∃ oT ts, h.get? T = some oT ∧ oT.data = .fields ts ∧ ts[3]? = some fl
  ne : T ≠ e
section
variable {M : Model} {A : Around} {E : Value → Shared → Prop} {s : Shared}
theorem noteFirst {base : Heap} {env : Env} {outer : List Env} {L e : Addr} {cls a b c d f : Value} {Q : Unit → Shared → Prop} (hfr : A.frames = some (env :: outer)) (hl : s.heap.FunFrames base (env :: outer)) (hf : env.frame = some L) (hkb : base.StaysIn s.heap) (hen : base.get? e = none)
    (hx : XRec s.heap e cls [a, .none, b, c, d, f])
    (h : ∀ h' T, EO base (env :: outer) e T cls [a, .ref T, b, c, d, f] (rawInt L) h' → s.heap.UpToSlots h' → Q () { s with heap := h' }) : wpAny M A (noteFrame (.ref e) env) Q E s := by
  obtain ⟨oe, he, hc, hd⟩ := hx
  have norec : ∀ b o, s.heap.get? b = some o → (∀ vs, o.data ≠ .fields vs) → b ≠ e := fun b o hb hn q => by
    rw [q, he] at hb
    exact hn _ (Option.some.inj hb ▸ hd)
  have hene : e ∉ (env :: outer).filterMap (·.frame) := fun hm => by
    obtain ⟨_, o, ho, hn⟩ := hl.mem hm
    exact norec e o ho hn rfl
  unfold noteFrame
  simp only [hf]
  refine wpAny_bind (wpAny_field he hd (x := .none) rfl ?_)
  rw [if_neg (by decide)]
  refine wpAny_bind (wpAny_frameOf_fun hfr hl hf fun h₁ hs₁ => ?_)
  refine wpAny_bind (wpAny_entryPlaceOf fun pl hpl => ?_)
  unfold EntryCells.newEntry newFields
  refine wpAny_bind (wpAny_newObj_type ?_ (hpl.sizeOk5 _ _ _ _ _))
  obtain ⟨oT, hoT, ts, hts, ht3⟩ : ∃ oT : Obj, oT = { cls := .type "traceback", dict := none, data := .fields ([Value.none, .ref L, .none, rawInt L, .none] ++ (if pl.isEmpty then List.replicate 6 Value.none else pl)).toArray } ∧ ∃ ts, oT.data = .fields ts ∧ ts[3]? = some (rawInt L) :=
    ⟨_, rfl, _, rfl, by simp⟩
  rw [← hoT]
  have he₁ : h₁.get? e = some oe := (hs₁.2.1 e hene).trans he
  have kb₁ : base.StaysIn h₁ := fun b o hb => (hs₁.2.1 b fun hm => by rw [(hl.mem hm).1] at hb; cases hb).trans (hkb b o hb)
  have he₂ : (h₁.push oT).get? e = some oe := Heap.get?_push_of_some oT he₁
  have hTe : h₁.objs.size ≠ e := Nat.ne_of_gt (Heap.lt_size he₁)
  have keep : ∀ b o, b ≠ e → h₁.get? b = some o → ((h₁.push oT).update e (Obj.mapFields (·.setIfInBounds 1 (Value.ref h₁.objs.size)))).get? b = some o := fun b o hbe hb => by
    rw [Heap.get?_update_other _ _ (Ne.symm hbe)]
    exact Heap.get?_push_of_some oT hb
  have hd₃ := Obj.data_mapFields hd (·.setIfInBounds 1 (Value.ref h₁.objs.size))
  have hfree : oT.isFreed = false := Obj.isFreed_of_fields hts
  refine wpAny_setField he₂ hd (by show 1 < 6; decide) (h _ h₁.objs.size ⟨fun b o hb => ?_, hen, kb₁.fresh, hl.of_keeps fun b o hb hn => ?_, ⟨_, Heap.get?_update_self _ he₂ (Obj.isFreed_of_fields hd₃), (Obj.cls_mapFields _ _).trans hc, hd₃⟩, rfl, ⟨oT, ts, ?_, hts, ht3⟩, hTe⟩ fun b o hb hn => ?_)
  · exact keep b o (fun q => by rw [q, hen] at hb; cases hb) (kb₁ b o hb)
  · obtain ⟨sl, hs⟩ := hs₁.2.2 b o hb
    exact ⟨_, keep b _ (norec b o hb hn) hs, rfl⟩
  · rw [Heap.get?_update_other _ _ (Ne.symm hTe)]
    exact Heap.get?_push_size h₁ hfree
  · obtain ⟨sl, hs⟩ := hs₁.2.2 b o hb
    exact ⟨sl, keep b _ (norec b o hb hn) hs⟩
theorem EO.off {base : Heap} {l : List Env} {e T : Addr} {cls fl : Value} {vs : List Value} {Q : Unit → Shared → Prop} (x : EO base l e T cls vs fl s.heap)
    (h : ∀ h', EO base l e T cls vs .none h' → s.heap.UpToSlots h' → Q () { s with heap := h' }) : wpAny M A (setFlight (.ref e) none) Q E s := by
  obtain ⟨hkb, hen, hnT, hl, ⟨oe, he, hc, hd⟩, h1, ⟨oT, ts, hT, hdT, h3⟩, hTe⟩ := x
  have hsz3 : 3 < ts.size := (Array.getElem?_eq_some_iff.mp h3).1
  have other : ∀ b, b ≠ T → (s.heap.update T (Obj.mapFields (·.setIfInBounds 3 ((none : Option Addr).elim Value.none fun f => rawInt f)))).get? b = s.heap.get? b := fun b hb => Heap.get?_update_other _ _ (Ne.symm hb)
  have norec : ∀ b o, s.heap.get? b = some o → (∀ vs, o.data ≠ .fields vs) → b ≠ T := fun b o hb hn q => by
    rw [q, hT] at hb
    exact hn _ (Option.some.inj hb ▸ hdT)
  have hd' := Obj.data_mapFields hdT (·.setIfInBounds 3 ((none : Option Addr).elim Value.none fun f => rawInt f))
  unfold setFlight
  refine wpAny_bind (wpAny_field he hd (by simpa using h1) ?_)
  rw [if_pos (show (Value.ref T != Value.none) = true from by simp)]
  refine wpAny_setField hT hdT hsz3 (h _ ⟨fun b o hb => ?_, hen, hnT, hl.of_keeps fun b o hb hn => ⟨o, (other b (norec b o hb hn)).trans hb, rfl⟩, ⟨oe, (other e (Ne.symm hTe)).trans he, hc, hd⟩, h1, ⟨_, _, Heap.get?_update_self _ hT (Obj.isFreed_of_fields hd'), hd', by simp [hsz3]⟩, hTe⟩ fun b o hb hn => ⟨o.slots, (other b (norec b o hb hn)).trans hb⟩)
  exact (other b fun q => by rw [q, hnT] at hb; cases hb).trans (hkb b o hb)
theorem EO.push {base h : Heap} {l : List Env} {e T : Addr} {cls fl : Value} {vs : List Value} (x : EO base l e T cls vs fl h) (o : Obj) : EO base l e T cls vs fl (h.push o) := by
  obtain ⟨hkb, hen, hnT, hl, ⟨oe, he, hc, hd⟩, h1, ⟨oT, ts, hT, hdT, h3⟩, hTe⟩ := x
  exact ⟨fun b o' hb => Heap.get?_push_of_some _ (hkb b o' hb), hen, hnT, hl.of_keeps fun b o' hb _ => ⟨o', Heap.get?_push_of_some _ hb, rfl⟩, ⟨oe, Heap.get?_push_of_some _ he, hc, hd⟩, h1, ⟨oT, ts, Heap.get?_push_of_some _ hT, hdT, h3⟩, hTe⟩
end
section
variable {prog : Program} {w : World} {A₀ : Around} {E : Value → Shared → Prop} {s' : Shared} {base g g₀ h : Heap} {outer : List Env} {L a e : Addr} {m : Str → Option Value} {name : Str} {scope : Scope} {cd : Value}
  {b₀ : Stmt} {suite : List Stmt} {pos tpos p1 p2 : Pos} {kk : Nat} {rest : List ExceptHandler} {Q : Flow → Shared → Prop} {news : Led} {KF : Frag}
  {p : Program} {loose : List Str} {mean : ExcName → Option Value} {mg mb : Str → Option Value} {X T1 T2 : String} {x1 x2 : Str} {b1 b2 : Bool}
theorem caught_tup (hx : Heap.NewExc h s'.heap e X) (F : Fr g L h m) (N : News g L h news) (K : Below A₀ base outer g) (XB : KF.In base) (TB : Top p loose mean mg mb base) (D : KtsDicts (outer.filterMap (·.frame)) g)
    (ex1 : nsIn KF mainGlobals x1 = some none) (hv1 : bootBuiltins x1 = some (.type T1)) (hn1 : x1 ≠ "__name__") (ex2 : nsIn KF mainGlobals x2 = some none) (hv2 : bootBuiltins x2 = some (.type T2)) (hn2 : x2 ≠ "__name__")
    (hexc1 : isSubtype (.type T1) (.type "BaseException") = pure true) (hnt1 : isSubtype (.type ((Manifest.find? T1).elim "type" fun x => x.metatype)) (.type "tuple") = pure false)
    (hexc2 : isSubtype (.type T2) (.type "BaseException") = pure true) (hnt2 : isSubtype (.type ((Manifest.find? T2).elim "type" fun x => x.metatype)) (.type "tuple") = pure false)
    (hsub1 : isSubtype (.type X) (.type T1) = pure b1) (hsub2 : isSubtype (.type X) (.type T2) = pure b2) (hb : (b1 || b2) = true)
    (k : ∀ h' g' T t ob, KtsTurn (outer.filterMap (·.frame)) g g' → Fr g' L h' m → News g' L h' ((e, ob) :: news) → ob.data = .fields #[t, .ref T, .none, .none, .bool false, .none] → Below A₀ base outer g' → KF.In g' → Top p loose mean mg mb g' → KtsDicts (outer.filterMap (·.frame)) g' →
      wpAny (model prog w) ((A₀.deeper (envOf name scope L a cd)).mark (some (.ref e))) (execs (b₀ :: suite) (envOf name scope L a cd)) Q E { s' with heap := h' })
    (hk : scope.kind = .function := by rfl) (hx1 : (envOf name scope L a cd).kindOf x1 = some .globalImplicit := by rfl) (hd1 : (x1 == ("__debug__" : Str)) = false := by decide)
    (hx2 : (envOf name scope L a cd).kindOf x2 = some .globalImplicit := by rfl) (hd2 : (x2 == ("__debug__" : Str)) = false := by decide)
    (hE : PassesOwnAt (model prog w) ((A₀.deeper (envOf name scope L a cd)).mark (some (.ref e))) (A₀.deeper (envOf name scope L a cd)) (envOf name scope L a cd) E := by passes_own) :
    wpAny (model prog w) (A₀.deeper (envOf name scope L a cd)) (noteFrame (.ref e) (envOf name scope L a cd))
      (fun _ s₂ => wpAny (model prog w) (A₀.deeper (envOf name scope L a cd)) (setFlight (.ref e) none) (fun _ s₃ =>
        wpAny (model prog w) (A₀.deeper (envOf name scope L a cd)) (handleBy (.ref e) (envOf name scope L a cd) (.ExceptHandler (some (.Tuple [.Name x1 p1, .Name x2 p2] kk tpos)) none (b₀ :: suite) pos :: rest)) Q E s₃) E s₂) E s' := by
  have K' := K.push (name := name) (a := a) (cd := cd) F hk
  have hin : ∀ env ∈ (envOf name scope L a cd :: outer), ∀ b, env.frame = some b → b ∈ (envOf name scope L a cd :: outer).filterMap (·.frame) := fun env he b hb => List.mem_filterMap.mpr ⟨env, he, hb⟩
  have st : base.StaysIn (hideAll h ((envOf name scope L a cd :: outer).filterMap (·.frame))) := fun b o q => hideAll_get _ (K'.stays b o q) fun hm => by
    rw [(K'.frames.mem hm).1] at q; cases q
  have sg : ∀ b o, h.get? b = some o → b ∉ (envOf name scope L a cd :: outer).filterMap (·.frame) → (hideAll h ((envOf name scope L a cd :: outer).filterMap (·.frame))).get? b = some o := fun b o q nm => hideAll_get _ q nm
  generalize hB : hideAll h ((envOf name scope L a cd :: outer).filterMap (·.frame)) = B at st sg
  have kB : B.StaysIn s'.heap := fun b o q => hx.keeps b o (of_hideAll _ (hB ▸ q))
  have eB : B.get? e = none := by
    cases q : B.get? e with
    | none => rfl
    | some o => have := of_hideAll _ (hB ▸ q : (hideAll h _).get? e = some o); rw [hx.new] at this; cases this
  have fB : s'.heap.FunFrames B (envOf name scope L a cd :: outer) := by
    have := funFrames_hide K'.frames hin
    rw [hB] at this
    exact this.of_keeps fun b o q _ => ⟨o, hx.keeps b o q, rfl⟩
  have nB : ∀ q ∈ news, B.get? q.1 = some q.2 := fun q hq => by
    refine sg _ _ (N q hq).1 fun hm => ?_
    rcases kts_mem hm with z | z
    · exact (N q hq).2.1 z
    · obtain ⟨env, he, hf⟩ := List.mem_filterMap.mp z
      obtain ⟨o, ho, _⟩ := (K.frames.mem z).2
      rw [(N q hq).2.2] at ho; cases ho
  have hL : B.get? L = none := by
    rw [← hB]
    exact hideAll_none _ (hin _ (.head _) L rfl)
  obtain ⟨ob, t, hob, hobc, hobd⟩ := hx.there
  refine noteFirst (Around.frames_deeper K.stack) fB rfl kB eB ⟨ob, hob, hobc, hobd⟩ fun h₄ T x₄ sm₄ => ?_
  refine x₄.off fun h₅ x₅ sm₅ => ?_
  have hsm₅ : h.UpToSlots h₅ := ((Heap.UpToSlots.of_keeps hx.keeps).trans sm₄).trans sm₅
  obtain ⟨g₅, T₅, F₅, K₅⟩ := kts_ground K F sg x₅.stay hsm₅
  have X₅ : KF.In g₅ := XB.keeps K₅.stays
  have P₅ : TopRead p loose mg mb g₅ := topRead_of (TB.keeps K₅.stays)
  refine wpAny_handleBy_tup2 hexc1 hnt1 hexc2 hnt2 hsub1 hsub2 ?_
  refine Tuple_ (spliced_more (name_B F₅ X₅ P₅ ex1 hv1 hn1 (spliced_more (name_B F₅ X₅ P₅ ex2 hv2 hn2 (spliced_none ?_) hk hx2 hd2)) hk hx1 hd1))
  obtain ⟨o5, ho5, hc5, hd5⟩ := x₅.ex
  refine wpAny_newObj_type ⟨_, rfl, IsTup.new _ _, ⟨o5, Heap.get?_push_of_some _ ho5, hc5⟩, ?_⟩
  rw [if_pos hb]
  refine (x₅.push _).off fun h₆ x₆ sm₆ => ?_
  have hsm₆ : h.UpToSlots h₆ := (hsm₅.trans (Heap.UpToSlots.of_keeps fun b o q => Heap.get?_push_of_some _ q)).trans sm₆
  obtain ⟨g₆, T₆, F₆, K₆⟩ := kts_ground K F sg x₆.stay hsm₆
  obtain ⟨o6, ho6, hc6, hd6⟩ := x₆.ex
  have ne₆ : g₆.get? e = none := T₆.none_ _ (kts_none F.keep hx.new)
  have N₆ : News g₆ L h₆ ((e, o6) :: news) := fun q hq => by
    rcases List.mem_cons.mp hq with rfl | hq
    · exact ⟨ho6, (fun z => by
        have h7 := F.ns
        obtain ⟨oL, _, _, hoL, _⟩ := h7
        have h8 := hx.new
        rw [show e = L from z, hoL] at h8
        cases h8), ne₆⟩
    · exact ⟨x₆.stay _ _ (nB q hq), (N q hq).2.1, T₆.none_ _ (N q hq).2.2⟩
  exact wpAny_passesOwnAt hE (k h₆ g₆ T t o6 T₆ F₆ N₆ hd6 K₆ (XB.keeps K₆.stays) (TB.keeps K₆.stays) (D.turn T₆))
end
end
end Mine

theorem Mine.quietQ2 : True := by
  w_top off
  trivial
namespace Mine
open PySem.W
def Ct0 (w : World) (mean : ExcName → Option Value) (mg mb : Str → Option Value) (k : Nat) (f : Addr) (vs : List Value) (Pre : Led → Prop) (Post : Led → Value → Prop) : Prop :=
  ∀ (dp un : Nat) (gd : Option (List Code)) (cn : Str) (cs : Scope) (a : Addr) (ccd : Value) (A₀ : Around) (h₀ : Heap) (L : Addr) (m : Str → Option Value) (news : Led) (s : Shared) (Q E : Value → Shared → Prop),
    Below A₀ h₀ [] h₀ → Fr h₀ L s.heap m → (Mine.heapK w.params).In h₀ → News h₀ L s.heap news → Top Mine.viewQ (looseW Mine.viewQ []) mean mg mb h₀ → cs.kind = .function →
    Pre news → dp + k < recursionLimit → un + 8 * k < cLine →
    (∀ r tl h' tk', Fr h₀ L h' m → News h₀ L h' (tl ++ news) → Post tl r → Q r { s with heap := h', toks := tk' }) →
    wpAny (model PySem.Challenge.rw_ij0121_01.row.prog w) (ktrTop dp un gd cn cs L a ccd [] []) (call (.ref f) vs) Q E s
theorem Ct0.use {w mean mg mb} {k : Nat} {f : Addr} {vs : List Value} {Pre : Led → Prop} {Post : Led → Value → Prop} (C : Ct0 w mean mg mb k f vs Pre Post) {dp un : Nat} {gd : Option (List Code)} {cn : Str} {cs : Scope} {a : Addr} {ccd : Value} {A₀ : Around} {h₀ : Heap} {L : Addr} {m : Str → Option Value} {news : Led} {s : Shared} {Q E : Value → Shared → Prop}
    (B : Below A₀ h₀ [] h₀) (F : Fr h₀ L s.heap m) (X : (Mine.heapK w.params).In h₀) (N : News h₀ L s.heap news) (T : Top Mine.viewQ (looseW Mine.viewQ []) mean mg mb h₀) (hk : cs.kind = .function)
    (hp : Pre news) (hd : dp + k < recursionLimit) (hu : un + 8 * k < cLine)
    (ret : ∀ r tl h' tk', Fr h₀ L h' m → News h₀ L h' (tl ++ news) → Post tl r → Q r { s with heap := h', toks := tk' }) :
    wpAny (model PySem.Challenge.rw_ij0121_01.row.prog w) (ktrTop dp un gd cn cs L a ccd [] []) (call (.ref f) vs) Q E s := C _ _ _ _ _ _ _ _ _ _ _ _ _ _ _ B F X N T hk hp hd hu ret
end Mine

theorem Mine.quietQ3 : True := by
  w_top off
  trivial
namespace Mine
open PySem.W
theorem plain_unchain : plainId "proto.unchain" = true := by decide +kernel
theorem entry_unchain : entryFor table "proto.unchain" = some Builtin.«proto.unchain» := entryFor_of_tree (by kernel_rfl)
section
variable {prog : Program} {w : World} {A : Around} {E : Value → Shared → Prop} {s : Shared} {env : Env}
abbrev exO (cls : String) (t : Addr) (c2 c4 : Value) : Obj := { cls := .type cls, data := .fields #[.ref t, .none, c2, .none, c4, .none] }
theorem updateField_rec {a : Addr} {o : Obj} {vs : Array Value} {k : Nat} {x : Value} {Q : Unit → Shared → Prop} (ho : s.heap.get? a = some o) (hd : o.data = .fields vs) (hk : k < vs.size)
    (h : Q () { s with heap := s.heap.update a (Obj.mapFields (·.setIfInBounds k x)) }) : wpAny (model prog w) A (updateField a k x) Q E s := wpAny_setField ho hd hk h
theorem raise_new {e e0 t : Addr} {cls : String} {α : Type} {ob0 : Obj} {vs0 : Array Value} {Q : α → Shared → Prop} (hh : A.handled = some (.ref e0)) (he : s.heap.get? e = some (exO cls t .none (.bool true))) (hne : e0 ≠ e) (h0 : s.heap.get? e0 = some ob0) (hd0 : ob0.data = .fields vs0) (h2 : vs0[2]? = some .none)
    (h : ∀ h', Heap.SameBut e s.heap h' → h'.get? e = some (exO cls t (.ref e0) (.bool true)) → E (.ref e) { s with heap := h' }) : wpAny (model prog w) A (raiseNew (.ref e) : Sem α) Q E s := by
  unfold raiseNew
  refine wpAny_bind (wpAny_handled ?_)
  rw [hh]
  dsimp only
  rw [if_pos (by simpa using hne)]
  refine wpAny_bind (wpAny_holding (wpAny_runValue ?_))
  refine codeAny_builtin entry_unchain ?_
  rw [Around.under_plainId plain_unchain _]
  unfold Builtin.«proto.unchain»
  refine wpAny_bind (wpAny_field h0 hd0 h2 ?_)
  rw [if_pos (by decide)]
  refine wpAny_bind (m := ret Value.none) (wpAny_pure (wpAny_pure ?_))
  show wpAny (model prog w) A (updateField e 2 (.ref e0) >>= _) Q E s
  refine wpAny_bind (updateField_rec he rfl (by show 2 < 6; decide) (wpAny_throw (h _ (Heap.SameBut.update ..) ?_)))
  exact Heap.get?_update_self _ he rfl
theorem raise_stmt {e0 : Addr} {cls : String} {x c : Sem Value} {Q : Flow → Shared → Prop} (G : ExcRaiseFacts cls) (hh : A.handled = some (.ref e0))
    (hc : ∀ (s₁ : Shared) (Q' : Value → Shared → Prop) (E' : Value → Shared → Prop), Q' .none s₁ → wpAny (model prog w) A c Q' E' s₁)
    (h : wpAny (model prog w) A x (fun v s₁ => ∃ e t ob0 vs0, v = .ref e ∧ s₁.heap.get? e = some (exO cls t .none (.bool false)) ∧ e0 ≠ e ∧ s₁.heap.get? e0 = some ob0 ∧ ob0.data = .fields vs0 ∧ vs0[2]? = some .none ∧
      ∀ h', Heap.SameBut e s₁.heap h' → h'.get? e = some (exO cls t (.ref e0) (.bool true)) → E (.ref e) { s₁ with heap := h' }) E s) :
    wpAny (model prog w) A (raiseStmt env (some x) (some c)) Q E s := by
  unfold raiseStmt
  refine wpAny_bind (wpAny_mono h (fun v s₁ h₁ => ?_) fun _ _ x => x)
  obtain ⟨e, t, ob0, vs0, rfl, he, hne, h0, hd0, h2, hE⟩ := h₁
  obtain ⟨hp, g, d, tk, os⟩ := s₁
  have hsub := G.isExc
  have hmeta := G.plainMeta
  refine wpAny_bind (wpAny_holding (hc _ _ _ (wpAny_bind (wpAny_pure ?_))))
  repeat (first | refine wpAny_loadPart he ?_ | wp_step)
  have s1 := Heap.SameBut.update hp e (Obj.mapFields (·.setIfInBounds 3 Value.none))
  have g1 : (hp.update e (Obj.mapFields (·.setIfInBounds 3 Value.none))).get? e = some (exO cls t .none (.bool false)) := Heap.get?_update_self _ he rfl
  have s2 := Heap.SameBut.update (hp.update e (Obj.mapFields (·.setIfInBounds 3 Value.none))) e (Obj.mapFields (·.setIfInBounds 4 (Value.bool true)))
  have g2 : ((hp.update e (Obj.mapFields (·.setIfInBounds 3 Value.none))).update e (Obj.mapFields (·.setIfInBounds 4 (Value.bool true)))).get? e = some (exO cls t .none (.bool true)) := Heap.get?_update_self _ g1 rfl
  exact raise_new hh g2 hne ((s2.2 e0 hne).trans ((s1.2 e0 hne).trans h0)) hd0 h2 fun h' sb g3 => hE h' ((s1.trans s2).trans sb) g3
end
section
variable {prog : Program} {w : World} {A : Around} {E : Value → Shared → Prop} {s : Shared} {h₀ : Heap} {L a e0 : Addr} {m mg mb : Str → Option Value} {cn : Str} {cs : Scope} {ccd : Value} {news : Led} {KF : Frag} {p : Program} {loose : List Str}
theorem raise_none {cls newId initId : String} {x : Str} {np cpos pos p0 p1 : Pos} {k0 k1 : Nat} {msg : Str} {ob0 : Obj} {vs0 : Array Value} {Q : Flow → Shared → Prop} (FC : ExcCallFacts cls newId initId) (G : ExcRaiseFacts cls) (hh : A.handled = some (.ref e0)) (F : Fr h₀ L s.heap m) (N : News h₀ L s.heap news) (X : KF.In h₀) (P : TopRead p loose mg mb h₀)
    (hm0 : (e0, ob0) ∈ news) (hd0 : ob0.data = .fields vs0) (h2 : vs0[2]? = some .none) (ex : nsIn KF mainGlobals x = some none) (hv : bootBuiltins x = some (.type cls)) (hn' : x ≠ "__name__")
    (h : ∀ h' e t tm tk', Fr h₀ L h' m → News h₀ L h' news → h₀.get? e = none → h₀.get? t = none → (@Ne Nat e L) → (@Ne Nat t L) → (∀ q ∈ news, q.1 ≠ e) → (∀ q ∈ news, q.1 ≠ t) → h'.get? e = some (exO cls t (.ref e0) (.bool true)) → h'.get? t = some { cls := .type "tuple", data := .seq [Value.str msg tm].toArray } → E (.ref e) { s with heap := h', toks := tk' })
    (hk : cs.kind = .function := by rfl) (hx : (envOf cn cs L a ccd).kindOf x = some .globalImplicit := by rfl) (hd : (x == ("__debug__" : Str)) = false := by decide) :
    wpAny (model prog w) A (exec (.Raise (some (.Call (.Name x np) [.Constant (.str msg) k0 p0] [] cpos)) (some (.Constant .none k1 p1)) pos) (envOf cn cs L a ccd)) Q E s := by
  rw [arm_exec_Raise]
  refine wpAny_bind (wpAny_standAt ?_)
  refine raise_stmt G hh (fun s₁ Q' E' hq => ?_) ?_
  · show wpAny _ _ (eval (.Constant .none k1 p1) (envOf cn cs L a ccd) >>= _) _ _ _
    exact wpAny_bind (wpAny_Constant_none (wpAny_bind (wpAny_standAt (wpAny_pure hq))))
  · show wpAny _ _ (eval (.Call (.Name x np) [.Constant (.str msg) k0 p0] [] cpos) (envOf cn cs L a ccd) >>= _) _ _ _
    refine wpAny_bind (wpAny_Call_ofName (name_B F X P ex hv hn' ?_ hk hx hd))
    refine callWith_excType (by rfl) ?_
    have he : starEach [Expr.Constant (.str msg) k0 p0] (envOf cn cs L a ccd) = (false, eval (.Constant (.str msg) k0 p0) (envOf cn cs L a ccd)) :: starEach [] (envOf cn cs L a ccd) := rfl
    have key : ∀ (Q2 : Args → Shared → Prop) (E2 : Value → Shared → Prop), Q2 ⟨[.str msg s.toks], []⟩ { s with toks := s.toks + 1 } → wpAny (model prog w) A (evalArgs (.type cls) true (backTo cpos (starEach [Expr.Constant (.str msg) k0 p0] (envOf cn cs L a ccd))) []) Q2 E2 s := by
      intro Q2 E2 hq
      have h₂ : wpAny (model prog w) A (spliced (backTo cpos (starEach [Expr.Constant (.str msg) k0 p0] (envOf cn cs L a ccd)))) (fun vs s' => Q2 ⟨vs, []⟩ s') E2 s := spliced_more (Calls.Constant_str (spliced_none hq))
      rw [he] at h₂ ⊢
      exact Calls.evalArgs_plain h₂
    refine key _ _ ?_
    obtain ⟨hp, g, d, tk, os⟩ := s
    refine wpAny_call_exc FC (hrest := by show 1 ≤ sizeLine; decide) fun h' e hm => ?_
    refine wpAny_bind (wpAny_standAt (wpAny_pure ?_))
    obtain ⟨t, ht, htn, htt⟩ := hm.there
    have F1 : Fr h₀ L h' m := F.keeps hm.keeps
    have N1 : News h₀ L h' news := N.grown hm.keeps
    have hLh : ∀ b, hp.get? b = none → (@Ne Nat b L) := fun b hb z => by
      obtain ⟨oL, _, _, hoL, _⟩ := F.ns
      rw [show b = L from z] at hb
      have : hp.get? L = some oL := hoL
      rw [hb] at this; cases this
    have hNh : ∀ b, hp.get? b = none → ∀ q ∈ news, q.1 ≠ b := fun b hb q hq z => by
      have := (N q hq).1
      rw [z] at this
      have h9 : hp.get? b = some q.2 := this
      rw [hb] at h9; cases h9
    have h0h : ∀ b, hp.get? b = none → h₀.get? b = none := fun b hb => kts_none F.keep hb
    have hne : e0 ≠ e := hNh e hm.new _ hm0
    have het : t ≠ e := fun z => by rw [z, ht] at htt; cases htt
    refine ⟨e, t, ob0, vs0, rfl, ht, hne, (N1 _ hm0).1, hd0, h2, fun h2 sb g2 => ?_⟩
    exact h h2 e t tk (tk + 1) (Fr.change F1 sb (hLh e hm.new) (h0h e hm.new)) (ksk_news N1 sb (hNh e hm.new)) (h0h e hm.new) (h0h t htn) (hLh e hm.new) (hLh t htn) (hNh e hm.new) (hNh t htn) g2 ((sb.2 t het).trans htt)
end
end Mine

theorem Mine.quietQ4 : True := by
  w_top off
  trivial
namespace Mine
open PySem.W
section
variable {M : Model} {A : Around} {E : Value → Shared → Prop} {s' : Shared} {base g g' : Heap} {outer : List Env} {L a e t e0 : Addr} {m : Str → Option Value} {name : Str} {scope : Scope} {cd : Value} {Q : Unit → Shared → Prop} {news news' : Led} {cls : String} {vs : List Value}
theorem leave_raised (K' : Below A base outer g') (T : KtsTurn (outer.filterMap (·.frame)) g g') (F' : Fr g' L s'.heap m) (N' : News g' L s'.heap news') (hsub : ∀ q ∈ news, q ∈ news')
    (hx : s'.heap.get? e = some (exO cls t (.ref e0) (.bool true))) (ht : s'.heap.get? t = some { cls := .type "tuple", data := .seq vs.toArray }) (ge : g'.get? e = none) (gt : g'.get? t = none) (eN : ∀ q ∈ news', q.1 ≠ e) (tN : ∀ q ∈ news', q.1 ≠ t)
    (hQ : ∀ h', RaisedS base g outer e (.type cls) t vs news h' → RaisedK base outer e (.type cls) t vs news h' → g.UpToSlots h' → Q () { s' with heap := h' }) (hk : scope.kind = .function := by rfl) :
    wpAny M (A.deeper (envOf name scope L a cd)) (leaving (envOf name scope L a cd) (.ref e)) Q E s' := by
  have KK := K'.push (name := name) (a := a) (cd := cd) F' hk
  have up : ∀ b o, g.get? b = some o → b ∉ outer.filterMap (·.frame) → g'.get? b = some o := fun b o q nm => T.other b o q nm
  have gnone : ∀ b, g'.get? b = none → g.get? b = none := fun b hb => by
    cases q : g.get? b with
    | none => rfl
    | some o => obtain ⟨sl, h⟩ := T.up q; rw [hb] at h; cases h
  have hid : ∀ b o, s'.heap.get? b = some o → b ∉ (envOf name scope L a cd :: outer).filterMap (·.frame) → b ≠ e → b ≠ t → (hideAll s'.heap (e :: t :: (envOf name scope L a cd :: outer).filterMap (·.frame))).get? b = some o := fun b o q h1 h2 h3 =>
    hideAll_get _ q fun hm => by
      rcases List.mem_cons.mp hm with z | hm
      · exact h2 z
      · rcases List.mem_cons.mp hm with z | hm
        · exact h3 z
        · exact h1 hm
  have offg : ∀ b o, g'.get? b = some o → b ≠ e ∧ b ≠ t := fun b o q => ⟨fun z => (by rw [z, ge] at q; cases q), fun z => (by rw [z, gt] at q; cases q)⟩
  have st : base.StaysIn (hideAll s'.heap (e :: t :: (envOf name scope L a cd :: outer).filterMap (·.frame))) := fun b o q => by
    have q' := K'.stays b o q
    exact hid b o (F'.keep b o q') (fun hm => by rw [(KK.frames.mem hm).1] at q; cases q) (offg b o q').1 (offg b o q').2
  have sg : ∀ b o, g.get? b = some o → b ∉ outer.filterMap (·.frame) → (hideAll s'.heap (e :: t :: (envOf name scope L a cd :: outer).filterMap (·.frame))).get? b = some o := fun b o q nm => by
    have q' := up b o q nm
    refine hid b o (F'.keep b o q') (fun hm => ?_) (offg b o q').1 (offg b o q').2
    rcases kts_mem hm with z | z
    · rw [z, kts_self F'] at q'; cases q'
    · exact nm z
  have hl : ∀ q ∈ news, (hideAll s'.heap (e :: t :: (envOf name scope L a cd :: outer).filterMap (·.frame))).get? q.1 = some q.2 ∧ g.get? q.1 = none ∧ base.get? q.1 = none := fun q hq => by
    have hq' := hsub q hq
    refine ⟨hid _ _ (N' q hq').1 (fun hm => ?_) (eN q hq') (tN q hq'), gnone _ (N' q hq').2.2, fresh_of_stays K'.stays (N' q hq').2.2⟩
    rcases kts_mem hm with z | z
    · exact (N' q hq').2.1 z
    · obtain ⟨o, ho, _⟩ := (K'.frames.mem z).2
      rw [(N' q hq').2.2] at ho; cases ho
  have eB : (hideAll s'.heap (e :: t :: (envOf name scope L a cd :: outer).filterMap (·.frame))).get? e = none := hideAll_none _ (.head _)
  have tB : (hideAll s'.heap (e :: t :: (envOf name scope L a cd :: outer).filterMap (·.frame))).get? t = none := hideAll_none _ (.tail _ (.head _))
  have fB : s'.heap.FunFrames (hideAll s'.heap (e :: t :: (envOf name scope L a cd :: outer).filterMap (·.frame))) (envOf name scope L a cd :: outer) :=
    funFrames_hide KK.frames fun env he b hb => .tail _ (.tail _ (List.mem_filterMap.mpr ⟨env, he, hb⟩))
  refine wpAny_leaving_firstW (a0 := .ref t) KK.stack fB rfl hx (fun b o q => of_hideAll _ q) eB rfl rfl rfl fun h' hL => ?_
  obtain ⟨k1, ⟨_, _, k2⟩, k3, k4⟩ := hL
  have R : RaisedS base g outer e (.type cls) t vs news h' := ⟨⟨_, st, sg, hl, ⟨k1, eB, k2, k3⟩, tB⟩, Heap.TupAt.of_slots ⟨_, _, ht, rfl, rfl⟩ k4⟩
  have u1 : g.UpToSlots g' := fun b o q hn => T.up q
  exact hQ h' R R.toK ((u1.trans (Heap.UpToSlots.of_keeps F'.keep)).trans k4)
end
def refMsg : Str := Str.ofString "Locale must be None, a string, or an iterable of two strings -- language code, encoding."
theorem refMsg_ok : PyData.strOk refMsg = true := by decide +kernel
def RefPost (tl : Led) (r : Value) : Prop := ∃ a n t1 t2, tl = [(a, PySem.W.listOf [Value.str (Str.ofString "") t1, Value.str refMsg t2].toArray n)] ∧ r = .ref a
set_option maxHeartbeats 1500000 in
theorem ct_refB {w mean mg mb} (x y : Array UInt8) (t t2 : Tok) (l : Addr) (n : Nat) :
    Ct0 w mean mg mb 10 198 [.ref l] (fun news => (l, ({ cls := .type "tuple", data := .seq [Value.bytes x t, Value.bytes y t2].toArray n } : Obj)) ∈ news) RefPost := by
  unfold Ct0
  k_fill
  intro dp un gd cn cs a ccd A₀ h₀ L m news s Q E B F X N T hk hpre hdp hun hret
  refine wpAny_call ?_; k_dflt (refine' code_defS0 ?k1 ?k2 ?k3 ?k4 ?k5 ?kA ?k6 ?k7 ?k8 ?k9 ?kB ?_ ?cK ?c2 ?c3 ?c4 ?c5; (case kA => exact rfl); (case k2 => k_asm); (case k1 => k_asm); (case k3 => k_asm); (case k4 => k_asm); (case k5 => k_asm); (case k6 => k_is); (case k7 => k_is); (case k8 => ktr_room); (case k9 => exact BindsTo.of_eq rfl); (case kB => exact locs rfl); (case cK => first | exact rfl | assumption); (case c2 => exact rfl); (case c3 => exact rfl); (case c4 => exact rfl); (case c5 => decide); k_whole; intro g' L' h' FG' F' N' B' X' T' D'; (try dsimp only); (try k_fold))
  repeat' ((fail_if_success (with_reducible show wpAny _ _ (call (Value.ref _) _) _ _ _)); first | (k_unfold; (try dsimp only)) | ((with_reducible change (_ : Flow → Shared → Prop) _ _); k_unfold; (try dsimp only)) | (k_end; wrow_close) | ((with_reducible show wpAny _ _ (exec _ _) _ _ _); k_fold; walk1) | walk1 | (dsimp only; walk1) | (leave1; walk_say "STEP leave1"; try dsimp only) | fail "no step")
  refine wpAny_call ?_; k_dflt (refine' code_defS ?k1 ?k2 ?k3 ?k4 ?k5 ?XB ?TB ?D ?T0 ?kA ?k6 ?k7 ?k8 ?k9 ?kB ?_ ?cK ?c2 ?c3 ?c4 ?c5; (case kA => exact rfl); (case k2 => k_asm); (case k1 => k_asm); (case XB => assumption); (case TB => assumption); (case D => assumption); (case T0 => exact KtsTurn.refl); (case k3 => k_asm); (case k4 => k_asm); (case k5 => k_asm); (case k6 => k_is); (case k7 => k_is); (case k8 => ktr_room); (case k9 => exact BindsTo.of_eq rfl); (case kB => exact locs rfl); (case cK => first | exact rfl | assumption); (case c2 => exact rfl); (case c3 => exact rfl); (case c4 => exact rfl); (case c5 => decide); k_whole; intro g2' L2' h2' FG2' F2' N2' B2' X2' T2' D2'; (try dsimp only); (try k_fold))
  repeat' ((fail_if_success (with_reducible show wpAny _ _ (noteFrame _ _) _ _ _)); first | (k_unfold; (try dsimp only)) | ((with_reducible change (_ : Flow → Shared → Prop) _ _); k_unfold; (try dsimp only)) | (k_end; wrow_close) | ((with_reducible show wpAny _ _ (exec _ _) _ _ _); k_fold; walk1) | walk1 | (dsimp only; walk1) | (leave1; walk_say "STEP leave1"; try dsimp only) | fail "no step")
  refine caught_tup (X := "TypeError") (T1 := "TypeError") (T2 := "ValueError") (b1 := true) (b2 := false) (by assumption) (by k_asm) (by k_asm) (by assumption) (by assumption) (by assumption) (by assumption) (by rfl) PyProof.Rows.Boot.«TypeError» (by decide +kernel) (by rfl) PyProof.Rows.Boot.«ValueError» (by decide +kernel) PySem.F.isExc_TypeError PySem.F.notTuple_TypeError PySem.F.isExc_ValueError PySem.F.notTuple_ValueError (by rw [isSubtype_type]; kernel_rfl) (by rw [isSubtype_type]; kernel_rfl) (by rfl) ?_; intro h6 g6 T6 t6 ob6 KT6 F6 N6 hd6 K6 X6 P6 D6
  repeat' ((fail_if_success (with_reducible show wpAny _ _ (exec (Stmt.Raise _ _ _) _) _ _ _)); first | (k_unfold; (try dsimp only)) | ((with_reducible change (_ : Flow → Shared → Prop) _ _); k_unfold; (try dsimp only)) | (k_end; wrow_close) | ((with_reducible show wpAny _ _ (exec _ _) _ _ _); k_fold; walk1) | walk1 | (dsimp only; walk1) | (leave1; walk_say "STEP leave1"; try dsimp only) | fail "no step")
  refine raise_none PySem.F.excCall_TypeError PySem.F.excRaise_TypeError rfl F6 N6 X6 (topRead_of P6) (.head _) hd6 rfl (by rfl) PyProof.Rows.Boot.«TypeError» (by decide +kernel) ?_; intro h7 e7 t7 tm7 tk7 F7 N7 ge7 gt7 eL7 tL7 eN7 tN7 xe7 xt7
  k_unfold
  (try dsimp only)
  refine leave_raised (g := g2') (news := news) (vs := [Value.str _ tm7]) K6 KT6 F7 N7 (fun q hq => .tail _ hq) xe7 xt7 ge7 gt7 eN7 tN7 ?_
  intro h8 R8 RK8 U8
  (try dsimp only)
  (repeat' (first | (k_unfold; (try dsimp only)) | ((with_reducible change (_ : Flow → Shared → Prop) _ _); k_unfold; (try dsimp only)) | (k_end; wrow_close) | ((with_reducible show wpAny _ _ (exec _ _) _ _ _); k_fold; walk1) | walk1 | (dsimp only; walk1) | (leave1; walk_say "STEP leave1"; try dsimp only) | fail "no step"))
  exact hret _ _ _ _ (by k_asm) (led1 (by k_asm) (by intro p hp; (try simp only [List.append_assoc, List.nil_append, List.cons_append, List.mem_cons, List.mem_append, List.not_mem_nil, or_false, false_or] at hp ⊢); first | exact hp | (simp only [hp, true_or, or_true]; done) | (rcases hp with hp | hp <;> simp only [hp, true_or, or_true] <;> done) | grind)) ⟨_, _, _, _, rfl, rfl⟩
end Mine

theorem Mine.quietQ5 : True := by
  w_top off
  trivial
namespace Mine
open PySem.W
section
variable {prog : Program} {w : World} {A : Around} {E : Value → Shared → Prop} {s : Shared} {env : Env} {h₀ : Heap} {L l : Addr} {m : Str → Option Value} {news : Led} {elts : List Expr} {k : Nat} {pos : Pos}
theorem unpack_bad {items : Array Value} {Q : List Value → Shared → Prop} (hh : A.handled = none) (F : Fr h₀ L s.heap m) (N : News h₀ L s.heap news) (hl : s.heap.IsList l items) (h1 : 1 ≤ items.size) (h2 : items.size ≠ 2)
    (h : ∀ h₁ h' tk e, Fr h₀ L h₁ m → News h₀ L h₁ news → Heap.NewExc h₁ h' e "ValueError" → E (.ref e) { s with heap := h', toks := tk }) : wpAny (model prog w) A (unpackItems (.ref l) 2 none) Q E s := by
  have hlt : l ≠ s.heap.objs.size := by obtain ⟨o, ho, _⟩ := hl; exact Nat.ne_of_lt (Heap.lt_size ho)
  have fin : ∀ h₁, Heap.ExtBut s.heap.objs.size s.heap h₁ → ∀ h' tk e, Heap.NewExc h₁ h' e "ValueError" → E (.ref e) { s with heap := h', toks := tk } :=
    fun h₁ he h' tk e hx => h h₁ h' tk e (F.extBut he (Nat.le_refl _)) (N.extBut he (Nat.le_refl _)) hx
  unfold unpackItems
  refine wpAny_bind ?_
  unfold notIterableAtAll
  refine wpAny_bind (wpAny_specialOf hl.typeIs slot_list_iter.lookup ?_)
  refine wpAny_pure ?_
  simp only [Bool.false_eq_true, if_false]
  refine wpAny_bind (wpAny_holding (wpAny_pyIter_list hl ?_))
  have hit : (s.heap.push { cls := .type "list_iterator", data := .fields #[.ref l, .int 0 0] }).IsListIter s.heap.objs.size l 0 := ⟨_, Heap.get?_push_size _ rfl, rfl, rfl⟩
  rcases Nat.lt_or_ge items.size 2 with h3 | h3
  · have hs : items.size = 1 := by omega
    have h0 : items[0]? = some items[0] := by simp
    refine wpAny_bind (wpAny_holding ?_)
    show wpAny _ _ (pyNext (.ref s.heap.objs.size) >>= _) _ _ _
    refine wpAny_bind (wpAny_pyNext_list_item hit (hl.push _) h0 fun h₁ hit₁ hs₁ => ?_)
    refine wpAny_bind (wpAny_holding ?_)
    show wpAny _ _ (pyNext (.ref s.heap.objs.size) >>= _) _ _ _
    have hl₁ : h₁.IsList l items := (hl.push _).extBut hs₁.extBut hlt
    refine wpAny_bind (wpAny_pyNext_list_end hh hit₁ hl₁ (by simp [hs]) fun h₂ he₂ => ?_)
    refine wpAny_pure (wpAny_pure ?_)
    rw [if_pos (by simp)]
    refine wpAny_bind (wpAny_rule ?_)
    refine wpAny_bind (wpAny_raiseErrorMade plainExc_ValueError hh (fun h' tk e hx => ?_) (by show (Str.ofString s!"not enough values to unpack (expected {2}, got {1})").length ≤ sizeLine; rw [PyProof.Rows.ofString_length, sizeLine_eq]; decide +kernel))
    exact fin h₂ (fun b o hb q => he₂ b o hb (hs₁.extBut b o hb (Heap.get?_push_of_some _ q))) h' tk e hx
  · refine wpAny_bind (wpAny_holding (kun_draw hlt 2 0 _ _ hit (hl.push _) (by omega) fun h₁ hit₁ hs₁ => ?_))
    rw [if_neg (by simp <;> omega)]
    have hl₁ : h₁.IsList l items := (hl.push _).extBut hs₁.extBut hlt
    have h4 : items[0 + 2]? = some (items[2]'(by omega)) := Array.getElem?_eq_getElem _
    refine wpAny_bind (wpAny_holding (wpAny_pyNext_list_item hit₁ hl₁ h4 fun h₂ hit₂ hs₂ => ?_))
    rw [if_pos (by rfl)]
    refine wpAny_bind (wpAny_rule ?_)
    refine wpAny_bind (wpAny_raiseErrorMade plainExc_ValueError hh (fun h' tk e hx => ?_) (by show (Str.ofString s!"too many values to unpack (expected {2})").length ≤ sizeLine; rw [PyProof.Rows.ofString_length, sizeLine_eq]; decide +kernel))
    exact fin h₂ (fun b o hb q => hs₂.extBut b o hb (hs₁.extBut b o hb (Heap.get?_push_of_some _ q))) h' tk e hx
theorem assign_bad {items : Array Value} {e1 e2 : Expr} {Q : Unit → Shared → Prop} (hh : A.handled = none) (F : Fr h₀ L s.heap m) (N : News h₀ L s.heap news) (hl : s.heap.IsList l items) (h1 : 1 ≤ items.size) (h2 : items.size ≠ 2)
    (hn : (assignEach [e1, e2] env).length = 2) (hstar : (assignEach [e1, e2] env).findIdx? (·.1) = none)
    (h : ∀ h₁ h' tk e, Fr h₀ L h₁ m → News h₀ L h₁ news → Heap.NewExc h₁ h' e "ValueError" → E (.ref e) { s with heap := h', toks := tk }) :
    wpAny (model prog w) A (assign (.Tuple [e1, e2] k pos) env (.ref l)) Q E s := by
  rw [assign_Tuple]
  refine wpAny_bind (wpAny_standAt ?_)
  unfold unpack
  rw [hn, hstar]
  exact wpAny_bind (wpAny_holding (unpack_bad hh F N hl h1 h2 h))
end
set_option maxHeartbeats 1500000 in
theorem ct_refL {w mean mg mb} (l : Addr) (n : Nat) (v : List Value) (xs : List Str) (hv : StrsAre v xs) (hn1 : 1 ≤ xs.length) (hn2 : xs.length ≠ 2) :
    Ct0 w mean mg mb 10 198 [.ref l] (fun news => (l, PySem.W.listOf v.toArray n) ∈ news) RefPost := by
  unfold Ct0
  k_fill
  intro dp un gd cn cs a ccd A₀ h₀ L m news s Q E B F X N T hk hpre hdp hun hret
  refine wpAny_call ?_; k_dflt (refine' code_defS0 ?k1 ?k2 ?k3 ?k4 ?k5 ?kA ?k6 ?k7 ?k8 ?k9 ?kB ?_ ?cK ?c2 ?c3 ?c4 ?c5; (case kA => exact rfl); (case k2 => k_asm); (case k1 => k_asm); (case k3 => k_asm); (case k4 => k_asm); (case k5 => k_asm); (case k6 => k_is); (case k7 => k_is); (case k8 => ktr_room); (case k9 => exact BindsTo.of_eq rfl); (case kB => exact locs rfl); (case cK => first | exact rfl | assumption); (case c2 => exact rfl); (case c3 => exact rfl); (case c4 => exact rfl); (case c5 => decide); k_whole; intro g' L' h' FG' F' N' B' X' T' D'; (try dsimp only); (try k_fold))
  repeat' ((fail_if_success (with_reducible show wpAny _ _ (call (Value.ref _) _) _ _ _)); first | (k_unfold; (try dsimp only)) | ((with_reducible change (_ : Flow → Shared → Prop) _ _); k_unfold; (try dsimp only)) | (k_end; wrow_close) | ((with_reducible show wpAny _ _ (exec _ _) _ _ _); k_fold; walk1) | walk1 | (dsimp only; walk1) | (leave1; walk_say "STEP leave1"; try dsimp only) | fail "no step")
  refine wpAny_call ?_; k_dflt (refine' code_defS ?k1 ?k2 ?k3 ?k4 ?k5 ?XB ?TB ?D ?T0 ?kA ?k6 ?k7 ?k8 ?k9 ?kB ?_ ?cK ?c2 ?c3 ?c4 ?c5; (case kA => exact rfl); (case k2 => k_asm); (case k1 => k_asm); (case XB => assumption); (case TB => assumption); (case D => assumption); (case T0 => exact KtsTurn.refl); (case k3 => k_asm); (case k4 => k_asm); (case k5 => k_asm); (case k6 => k_is); (case k7 => k_is); (case k8 => ktr_room); (case k9 => exact BindsTo.of_eq rfl); (case kB => exact locs rfl); (case cK => first | exact rfl | assumption); (case c2 => exact rfl); (case c3 => exact rfl); (case c4 => exact rfl); (case c5 => decide); k_whole; intro g2' L2' h2' FG2' F2' N2' B2' X2' T2' D2'; (try dsimp only); (try k_fold))
  repeat' ((fail_if_success (with_reducible show wpAny _ _ (assign (Expr.Tuple _ _ _) _ _) _ _ _)); first | (k_unfold; (try dsimp only)) | ((with_reducible change (_ : Flow → Shared → Prop) _ _); k_unfold; (try dsimp only)) | (k_end; wrow_close) | ((with_reducible show wpAny _ _ (exec _ _) _ _ _); k_fold; walk1) | walk1 | (dsimp only; walk1) | (leave1; walk_say "STEP leave1"; try dsimp only) | fail "no step")
  refine assign_bad rfl (by k_asm) (by k_asm) ⟨_, News.get (by k_asm) (by k_mem), rfl, _, rfl⟩ (by rw [List.size_toArray, hv.length]; exact hn1) (by rw [List.size_toArray, hv.length]; exact hn2) (by rfl) (by rfl) ?_
  intro h1' h2' tk2' e' F1' N1' hx'
  repeat' ((fail_if_success (with_reducible show wpAny _ _ (noteFrame _ _) _ _ _)); first | (k_unfold; (try dsimp only)) | ((with_reducible change (_ : Flow → Shared → Prop) _ _); k_unfold; (try dsimp only)) | (k_end; wrow_close) | ((with_reducible show wpAny _ _ (exec _ _) _ _ _); k_fold; walk1) | walk1 | (dsimp only; walk1) | (leave1; walk_say "STEP leave1"; try dsimp only) | fail "no step")
  refine caught_tup (X := "ValueError") (T1 := "TypeError") (T2 := "ValueError") (b1 := false) (b2 := true) (by assumption) (by k_asm) (by k_asm) (by assumption) (by assumption) (by assumption) (by assumption) (by rfl) PyProof.Rows.Boot.«TypeError» (by decide +kernel) (by rfl) PyProof.Rows.Boot.«ValueError» (by decide +kernel) PySem.F.isExc_TypeError PySem.F.notTuple_TypeError PySem.F.isExc_ValueError PySem.F.notTuple_ValueError (by rw [isSubtype_type]; kernel_rfl) (by rw [isSubtype_type]; kernel_rfl) (by rfl) ?_; intro h6 g6 T6 t6 ob6 KT6 F6 N6 hd6 K6 X6 P6 D6
  repeat' ((fail_if_success (with_reducible show wpAny _ _ (exec (Stmt.Raise _ _ _) _) _ _ _)); first | (k_unfold; (try dsimp only)) | ((with_reducible change (_ : Flow → Shared → Prop) _ _); k_unfold; (try dsimp only)) | (k_end; wrow_close) | ((with_reducible show wpAny _ _ (exec _ _) _ _ _); k_fold; walk1) | walk1 | (dsimp only; walk1) | (leave1; walk_say "STEP leave1"; try dsimp only) | fail "no step")
  refine raise_none PySem.F.excCall_TypeError PySem.F.excRaise_TypeError rfl F6 N6 X6 (topRead_of P6) (.head _) hd6 rfl (by rfl) PyProof.Rows.Boot.«TypeError» (by decide +kernel) ?_; intro h7 e7 t7 tm7 tk7 F7 N7 ge7 gt7 eL7 tL7 eN7 tN7 xe7 xt7
  k_unfold
  (try dsimp only)
  refine leave_raised (g := g2') (news := news) (vs := [Value.str _ tm7]) K6 KT6 F7 N7 (fun q hq => .tail _ hq) xe7 xt7 ge7 gt7 eN7 tN7 ?_
  intro h8 R8 RK8 U8
  (try dsimp only)
  (repeat' (first | (k_unfold; (try dsimp only)) | ((with_reducible change (_ : Flow → Shared → Prop) _ _); k_unfold; (try dsimp only)) | (k_end; wrow_close) | ((with_reducible show wpAny _ _ (exec _ _) _ _ _); k_fold; walk1) | walk1 | (dsimp only; walk1) | (leave1; walk_say "STEP leave1"; try dsimp only) | fail "no step"))
  exact hret _ _ _ _ (by k_asm) (led1 (by k_asm) (by intro p hp; (try simp only [List.append_assoc, List.nil_append, List.cons_append, List.mem_cons, List.mem_append, List.not_mem_nil, or_false, false_or] at hp ⊢); first | exact hp | (simp only [hp, true_or, or_true]; done) | (rcases hp with hp | hp <;> simp only [hp, true_or, or_true] <;> done) | grind)) ⟨_, _, _, _, rfl, rfl⟩
end Mine

theorem Mine.quietR4 : True := by
  w_top off
  trivial
namespace Mine
open Builtin Builtin.Bytes
theorem slot_bytes_rfind : Slot "bytes" "rfind" "bytes.rfind" :=
  .of (owner := "bytes") (n := "rfind") (by rw [typeLookup_type, builtinLookup_eq_fast]; kernel_rfl) (by decide +kernel) (by decide +kernel) (by decide +kernel)
    (by first | exact .inl (by decide +kernel) | exact .inr (by decide +kernel)) (by rw [isSubtype_type]; kernel_rfl)
theorem type_bytes_rfind : typeOf (.builtin "bytes.rfind") = pure (.type "method_descriptor") := by show builtinType _ = _; rw [builtinType_eq_fast]; kernel_rfl
theorem entry_bytes_rfind : entryFor table "bytes.rfind" = some Builtin.«bytes.rfind» := entryFor_of_tree (by kernel_rfl)
theorem args_bytes_rfind_2 (a b : Value) : argsOk "bytes.rfind" ⟨[a, b], []⟩ := by
  unfold argsOk; rw [signature?_of (id := "bytes.rfind") (n := ['d', 'n', 'i', 'f', 'r']) (o := ['s', 'e', 't', 'y', 'b']) (by kernel_rfl) FB.owner_bytes]; kernel_rfl
theorem slot_bytes_rstrip : Slot "bytes" "rstrip" "bytes.rstrip" :=
  .of (owner := "bytes") (n := "rstrip") (by rw [typeLookup_type, builtinLookup_eq_fast]; kernel_rfl) (by decide +kernel) (by decide +kernel) (by decide +kernel)
    (by first | exact .inl (by decide +kernel) | exact .inr (by decide +kernel)) (by rw [isSubtype_type]; kernel_rfl)
theorem type_bytes_rstrip : typeOf (.builtin "bytes.rstrip") = pure (.type "method_descriptor") := by show builtinType _ = _; rw [builtinType_eq_fast]; kernel_rfl
theorem entry_bytes_rstrip : entryFor table "bytes.rstrip" = some Builtin.«bytes.rstrip» := entryFor_of_tree (by kernel_rfl)
theorem args_bytes_rstrip_2 (a b : Value) : argsOk "bytes.rstrip" ⟨[a, b], []⟩ := by
  unfold argsOk; rw [signature?_of (id := "bytes.rstrip") (n := ['p', 'i', 'r', 't', 's', 'r']) (o := ['s', 'e', 't', 'y', 'b']) (by kernel_rfl) FB.owner_bytes]; kernel_rfl
section
variable {prog : Program} {w : World} {A : Around} {E : Value → Shared → Prop} {s : Shared}
theorem rfind_bound {b sub : Array UInt8} {lo hi i : Nat} (h : rfind? b sub lo hi = some i) (hs : sub.size = 1) : i < hi := by
  unfold rfind? at h
  have h1 := List.mem_of_find?_eq_some h
  rw [List.mem_reverse, List.mem_map] at h1
  obtain ⟨k, hk, rfl⟩ := h1
  rw [List.mem_range] at hk
  omega
theorem meets_rfind (b : Array UInt8) (t : Tok) (c : UInt8) (u : Tok) : Meets (Builtin.«bytes.rfind» ⟨[.bytes b t, .bytes #[c] u], []⟩)
    (fun _ R s => ∀ (k : Int) t' tk, -1 ≤ k → k < b.size → R (.ok (.ret (.int k t'))) { s with toks := tk }) := by
  refine .of_wp fun prog w A R s h => ?_
  have hfin : ∀ k : Int, -1 ≤ k → k < b.size → wpAny (model prog w) A.in1 (retInt k) (fun fin s' => ∃ v, fin = .done (.ret v) ∧ R (.ok (.ret v)) s') (fun e s' => R (.error e) s') s := by
    intro k h1 h2
    unfold retInt
    exact wpAny_bind (wpAny_mkInt (wpAny_pure ⟨_, rfl, h k _ _ h1 h2⟩))
  show wpAny _ _ (searchArgs .bytes "rfind" ⟨[.bytes b t, .bytes #[c] u], []⟩ >>= _) _ _ s
  refine wpAny_bind ?_
  unfold searchArgs
  refine wpAny_bind (wpAny_of_eq (a := (Value.bytes b t, [Value.bytes #[c] u])) (by rfl) ?_)
  dsimp only
  refine wpAny_bind (wpAny_of_eq (a := none) rfl ?_)
  refine wpAny_bind (wpAny_of_eq (a := none) rfl ?_)
  refine wpAny_bind (wpAny_of_eq KBy.buffer_eq ?_)
  dsimp only
  refine wpAny_bind (wpAny_pure ?_)
  refine wpAny_bind (wpAny_of_eq (a := b) rfl ?_)
  have hwin : window b.size none none = (0, (b.size : Int)) := by
    unfold window
    simp only [Option.getD_none]
    rw [if_neg (by omega), if_neg (by omega), Int.min_self]
  rw [hwin]
  dsimp only
  refine wpAny_pure ?_
  dsimp only
  simp only [↓reduceIte, Bool.false_eq_true]
  generalize hr : Option.bind _ _ = r
  cases r with
  | some i =>
    have hlt : i < b.size := by
      split at hr
      · cases hr
      · simpa using rfind_bound hr rfl
    have h5 : (i : Int) < b.size := by omega
    exact hfin i (by omega) h5
  | none =>
    refine wpAny_bind (wpAny_rule ?_)
    exact hfin (-1) (by omega) (by omega)
theorem meets_rstrip (b : Array UInt8) (t : Tok) (c : UInt8) (u : Tok) : Meets (Builtin.«bytes.rstrip» ⟨[.bytes b t, .bytes #[c] u], []⟩)
    (fun _ R s => b.size ≤ sizeLine ∧ ∀ b' t' tk, b'.size ≤ b.size → R (.ok (.ret (.bytes b' t'))) { s with toks := tk }) := by
  refine .of_wp fun prog w A R s h => ?_
  obtain ⟨hb, h⟩ := h
  show wpAny _ _ (selfAndSome "bytes.rstrip" "rstrip" 0 1 ⟨[.bytes b t, .bytes #[c] u], []⟩ >>= _) _ _ s
  refine wpAny_bind (wpAny_of_eq (a := (Value.bytes b t, [Value.bytes #[c] u])) (by rfl) ?_)
  dsimp only
  refine wpAny_bind ?_
  unfold bytesLike
  refine wpAny_bind (wpAny_of_eq KBy.buffer_eq ?_)
  dsimp only
  refine wpAny_pure (wpAny_bind (wpAny_pure ?_))
  refine wpAny_bind (wpAny_of_eq (a := b) rfl ?_)
  simp only [Bool.false_eq_true, if_false, if_true]
  split
  · refine wpAny_bind (wpAny_rule ?_)
    refine wpAny_bind ?_
    refine wpAny_of_eq (a := Value.bytes b t) (by rfl) ?_
    exact wpAny_pure ⟨_, rfl, h b t s.toks (Nat.le_refl _)⟩
  · have hsz : ((b.toList.reverse.dropWhile (#[c] : Array UInt8).contains).reverse.toArray).size ≤ b.size := by
      rw [List.size_toArray, List.length_reverse]
      have h1 := (List.dropWhile_sublist (l := b.toList.reverse) (#[c] : Array UInt8).contains).length_le
      simpa using h1
    refine wpAny_bind ?_
    refine wpAny_mkBytes ?_ (Nat.le_trans hsz hb)
    exact wpAny_pure ⟨_, rfl, h _ _ _ hsz⟩
theorem call_rfindB {b : Array UInt8} {t u : Tok} {c : UInt8} {Q : Value → Shared → Prop} (h : ∀ (k : Int) t' tk, -1 ≤ k → k < b.size → Q (.int k t') { s with toks := tk }) :
    wpAny (model prog w) A (call (.builtin "bytes.rfind") [.bytes b t, .bytes #[c] u]) Q E s :=
  call_meets slot_bytes_rfind (typeIs_bytes _ _ _) entry_bytes_rfind (args_bytes_rfind_2 _ _) (meets_rfind b t c u) h
theorem call_rstripB {b : Array UInt8} {t u : Tok} {c : UInt8} {Q : Value → Shared → Prop} (hb : b.size ≤ 100000) (h : ∀ b' t' tk, b'.size ≤ b.size → Q (.bytes b' t') { s with toks := tk }) :
    wpAny (model prog w) A (call (.builtin "bytes.rstrip") [.bytes b t, .bytes #[c] u]) Q E s :=
  call_meets slot_bytes_rstrip (typeIs_bytes _ _ _) entry_bytes_rstrip (args_bytes_rstrip_2 _ _) (meets_rstrip b t c u) ⟨by rw [sizeLine_eq]; omega, h⟩
theorem get_rfindB {b : Array UInt8} {t : Tok} {pl : Sem Bool} {Q : Value × List Value → Shared → Prop} (h : Q (.builtin "bytes.rfind", [.bytes b t]) s) : wpAny (model prog w) A (getMethod (.bytes b t) "rfind" pl) Q E s := by
  with_reducible exact KBd.method_of (.bytes b t) (typeIs_bytes _ _ _) slot_bytes_rfind type_bytes_rfind KBd.noRef h
theorem get_rstripB {b : Array UInt8} {t : Tok} {pl : Sem Bool} {Q : Value × List Value → Shared → Prop} (h : Q (.builtin "bytes.rstrip", [.bytes b t]) s) : wpAny (model prog w) A (getMethod (.bytes b t) "rstrip" pl) Q E s := by
  with_reducible exact KBd.method_of (.bytes b t) (typeIs_bytes _ _ _) slot_bytes_rstrip type_bytes_rstrip KBd.noRef h
end
end Mine

local macro_rules | `(tactic| walk_at "getMethod bytes") => `(tactic| (k_here; with_reducible refine Mine.get_rfindB ?_))
local macro_rules | `(tactic| walk_at "getMethod bytes") => `(tactic| (k_here; with_reducible refine Mine.get_rstripB ?_))
local macro_rules | `(tactic| walk_at "call builtin:bytes.rfind") => `(tactic| (k_here; (with_reducible show wpAny _ _ (call (Value.builtin "bytes.rfind") [Value.bytes _ _, Value.bytes _ _]) _ _ _); refine Mine.call_rfindB ?_; intro i' t' tk' hi1' hi2'))
local macro_rules | `(tactic| walk_at "call builtin:bytes.rstrip") => `(tactic| (k_here; (with_reducible show wpAny _ _ (call (Value.builtin "bytes.rstrip") [Value.bytes _ _, Value.bytes _ _]) _ _ _); refine Mine.call_rstripB (by first | omega | exact Nat.le_trans (KBc.size_picked_le _ _ _) (by omega)) ?_; intro b' t' tk' hb'))
theorem Mine.quietC2B : True := by
  w_top off
  trivial
namespace Mine
set_option maxHeartbeats 400000 in
theorem ct_splitB {w mean mg mb} (x : Array UInt8) (t : Tok) (hx : x.size ≤ 1000) : Ct w mean mg mb 3 143 [.bytes x t] (fun _ => True)
    (fun tl r => ∃ a n b1 b2 t1 t2, tl = [(a, ({ cls := .type "tuple", data := .seq [Value.bytes b1 t1, Value.bytes b2 t2].toArray n } : Obj))] ∧ r = .ref a) := by
  unfold Ct
  k_fill
  intro dp un gd cn cs a ccd cl outer A₀ base h₀ L m news s Q E B F X N T hk hpre hdp hun hret
  obtain ⟨ks, hks⟩ : ∃ ks, KBw.bInts x = ks := ⟨_, rfl⟩
  have hkl : ks.length ≤ 1000 := by rw [← hks, KBw.ints_length]; exact hx
  refine wpAny_call ?_
  k_dflt ktr_enter
  (repeat' (first | (k_unfold; (try dsimp only)) | ((with_reducible change (_ : Flow → Shared → Prop) _ _); k_unfold; (try dsimp only)) | (k_end; wrow_close) | ((with_reducible show wpAny _ _ (exec _ _) _ _ _); k_fold; walk1) | walk1 | (dsimp only; walk1) | (leave1; walk_say "STEP leave1"; try dsimp only) | fail "no step"))
  all_goals exact hret _ _ _ _ (by k_asm) (led1 (by k_asm) (by intro p hp; (try simp only [List.append_assoc, List.nil_append, List.cons_append, List.mem_cons, List.mem_append, List.not_mem_nil, or_false, false_or] at hp ⊢); first | exact hp | (simp only [hp, true_or, or_true]; done) | (rcases hp with hp | hp <;> simp only [hp, true_or, or_true] <;> done) | grind)) ⟨_, _, _, _, _, _, rfl, rfl⟩
end Mine

theorem Mine.quietE1 : True := by
  w_top off
  trivial
namespace Mine
open Builtin Builtin.Str
section
def spl (c : Nat) : List Nat → List (List Nat)
  | [] => [[]]
  | x :: r => if x = c then [] :: spl c r else match spl c r with
    | [] => [[x]]
    | p :: q => (x :: p) :: q
def gl (c : Nat) : List (List Nat) → List Nat
  | [] => []
  | [x] => x
  | x :: y :: r => x ++ c :: gl c (y :: r)
theorem spl_ne (c : Nat) : ∀ l, spl c l ≠ []
  | [] => by simp [spl]
  | x :: r => by
    unfold spl
    split
    · simp
    · split <;> simp
theorem spl_pre {c : Nat} {a : List Nat} (ha : c ∉ a) (l : List Nat) : spl c (a ++ l) = match spl c l with | [] => [a] | p :: q => (a ++ p) :: q := by
  induction a with
  | nil => simp only [List.nil_append]; cases h : spl c l with
    | nil => exact absurd h (spl_ne c l)
    | cons p q => rfl
  | cons x r ih =>
    have hx : x ≠ c := fun e => ha (e ▸ .head _)
    rw [List.cons_append, spl, if_neg hx, ih fun h => ha (.tail _ h)]
    cases spl c l <;> rfl
theorem spl_free {c : Nat} {a : List Nat} (ha : c ∉ a) : spl c a = [a] := by
  have := spl_pre ha []
  rw [List.append_nil] at this
  rw [this]
  simp [spl]
theorem spl_cut {c : Nat} {a : List Nat} (ha : c ∉ a) (l : List Nat) : spl c (a ++ c :: l) = a :: spl c l := by
  rw [spl_pre ha]
  simp [spl]
theorem spl_gl {c : Nat} : ∀ {ps : List (List Nat)}, ps ≠ [] → (∀ p ∈ ps, c ∉ p) → spl c (gl c ps) = ps
  | [], h, _ => absurd rfl h
  | [x], _, h => spl_free (h x (.head _))
  | x :: y :: r, _, h => by
    show spl c (x ++ c :: gl c (y :: r)) = _
    rw [spl_cut (h x (.head _)), spl_gl (by simp) fun p hp => h p (.tail _ hp)]
theorem join_S (c : Nat) : ∀ ps : List (List Nat), Str.join (S [c]) (ps.map S) = S (gl c ps)
  | [] => rfl
  | [x] => rfl
  | x :: y :: r => by
    have ih := join_S c (y :: r)
    show S x ++ S [c] ++ Str.join (S [c]) (S y :: r.map S) = _
    rw [show (S y :: r.map S) = (y :: r).map S from rfl, ih, S_append, S_append]
    simp [gl]
theorem split_S (c : Nat) (l : List Nat) : Txt.split (S l) (S [c]) = (spl c l).map S := by
  have h1 := StrLaws.join_split (S l) (S [c])
  have h2 := StrLaws.split_free (S l) c
  have h3 := split_pos (S l) (S [c])
  have e : (⟨#[c]⟩ : Str) = S [c] := rfl
  rw [e] at h2
  generalize Txt.split (S l) (S [c]) = ws at h1 h2 h3
  have e2 : ws = (ws.map tl).map S := by rw [List.map_map]; conv => lhs; rw [← List.map_id ws]
                                         exact List.map_congr_left fun x _ => (S_tl x).symm
  rw [e2, join_S] at h1
  rw [← S_inj h1, spl_gl, ← e2]
  · intro h
    rw [List.map_eq_nil_iff] at h
    rw [h] at h3; exact absurd h3 (by decide)
  · intro p hp
    obtain ⟨w, hw, rfl⟩ := List.mem_map.mp hp
    exact h2 w hw
theorem at_S (l : List Nat) (c i : Nat) : StrLaws.At (S l) (S [c]) (S l).length i ↔ l[i]? = some c := by
  have := StrLaws.subAt_one (S l) c i
  rw [show (S l).cps.toList = l from tl_S l] at this
  exact this
theorem rfind_none {l : List Nat} {c : Nat} (h : c ∉ l) : Txt.rfind (S l) (S [c]) = -1 := by
  rcases rfind_whole (S l) (S [c]) with ⟨h0, _⟩ | ⟨i, _, h1, _⟩
  · exact h0
  · exact absurd (List.mem_of_getElem? ((at_S l c i).mp h1)) h
theorem rfind_last {P T : List Nat} {c : Nat} (h : c ∉ T) : Txt.rfind (S (P ++ c :: T)) (S [c]) = P.length := by
  have hp : (P ++ c :: T)[P.length]? = some c := by simp
  rcases rfind_whole (S (P ++ c :: T)) (S [c]) with ⟨_, h0⟩ | ⟨i, h0, h1, h2⟩
  · exact absurd ((at_S _ c _).mpr hp) (h0 _)
  · rw [at_S] at h1
    rw [h0]
    congr 1
    rcases Nat.lt_trichotomy i P.length with h3 | h3 | h3
    · exact absurd ((at_S _ c _).mpr hp) (h2 _ h3)
    · exact h3
    · rw [List.getElem?_append_right (Nat.le_of_lt h3)] at h1
      obtain ⟨k, hk⟩ : ∃ k, i - P.length = k + 1 := ⟨i - P.length - 1, by omega⟩
      rw [hk, List.getElem?_cons_succ] at h1
      exact absurd (List.mem_of_getElem? h1) h
theorem startswith_S (l : List Nat) (c : Nat) : Txt.startswith (S l) (S [c]) = decide (l[0]? = some c) := by
  have h := at_S l c 0
  unfold StrLaws.At at h
  unfold Txt.startswith
  rw [Bool.eq_iff_iff]
  simp only [Bool.and_eq_true, decide_eq_true_eq]
  exact h
theorem endswith_S (l : List Nat) (c : Nat) : Txt.endswith (S l) (S [c]) = decide (l.getLast? = some c) := by
  unfold Txt.endswith
  rw [Bool.eq_iff_iff]
  simp only [Bool.and_eq_true, decide_eq_true_eq]
  have e : (S [c]).length = 1 := len_S _
  rw [e, len_S]
  have h := at_S l c (l.length - 1)
  unfold StrLaws.At at h
  rw [e, len_S] at h
  rw [List.getLast?_eq_getElem?, ← h]
  constructor
  · rintro ⟨a, b⟩; exact ⟨by omega, b⟩
  · rintro ⟨a, b⟩; exact ⟨by omega, b⟩
theorem mul_S (c : Nat) (n : Int) : Txt.mul (S [c]) n = S (List.replicate n.toNat c) := by
  unfold Txt.mul
  split
  · rw [show n.toNat = 0 by omega]; rfl
  · split
    · rename_i h1 h2
      have : n = 1 := by simpa [S, Str.length] using h2
      subst this; rfl
    · apply Str.ext'
      show (List.replicate n.toNat #[c]).foldl (· ++ ·) #[] = (List.replicate n.toNat c).toArray
      have key : ∀ (k : Nat) (a : Array Nat), (List.replicate k #[c]).foldl (· ++ ·) a = a ++ (List.replicate k c).toArray := by
        intro k
        induction k with
        | zero => intro a; simp
        | succ k ih => intro a; rw [List.replicate_succ, List.foldl_cons, ih, List.replicate_succ]; apply Array.toList_inj.mp; simp
      rw [key]; simp
theorem getD_S (l : List Nat) (k : Nat) : (S l).cps.getD k 0 = l.getD k 0 := by
  rw [← getD_list, show (S l).cps.toList = l from tl_S l]
theorem arr_getD (l : List Nat) (k : Nat) : l.toArray.getD k 0 = l.getD k 0 := by rw [← getD_list ⟨l.toArray⟩]
theorem rstrip_S {H : List Nat} {n c : Nat} (h : H = [] ∨ ∃ d, H.getLast? = some d ∧ d ≠ c) : Txt.rstripChars (S (H ++ List.replicate n c)) (S [c]) = S H := by
  have hgo : ∀ k, (S [c]).cps.contains k = decide (k = c) := by intro k; simp [S]
  have key : stripHi (S [c]).cps.contains true (S (H ++ List.replicate n c)) 0 = H.length := by
    obtain ⟨_, a2, a3, a4⟩ := hi_facts (S [c]).cps.contains (S (H ++ List.replicate n c)) 0 (Nat.zero_le _)
    generalize stripHi (S [c]).cps.contains true (S (H ++ List.replicate n c)) 0 = q at a2 a3 a4
    rw [len_S, List.length_append, List.length_replicate] at a2
    simp only [len_S, List.length_append, List.length_replicate, hgo, decide_eq_true_eq, decide_eq_false_iff_not, arr_getD] at a3 a4
    rcases Nat.lt_trichotomy q H.length with h1 | h1 | h1
    · exfalso
      rcases h with rfl | ⟨d, hd, hne⟩
      · simp at h1
      · have h2 := a3 (H.length - 1) (by omega) (by omega)
        rw [List.getLast?_eq_getElem?] at hd
        rw [List.getD_eq_getElem?_getD, List.getElem?_append_left (by omega), hd] at h2
        exact hne h2
    · exact h1
    · exfalso
      rcases a4 with h2 | h2
      · omega
      · apply h2
        rw [List.getD_eq_getElem?_getD, List.getElem?_append_right (by omega), List.getElem?_replicate, if_pos (by omega)]
        rfl
  have klo : stripLo (S [c]).cps.contains false (S (H ++ List.replicate n c)) = 0 := by simp [stripLo]
  unfold Txt.rstripChars Txt.stripBy stripSame PySem.stripped
  rw [klo, key]
  split
  · rename_i h1
    simp only [beq_self_eq_true, Bool.true_and, beq_iff_eq, len_S, List.length_append, List.length_replicate] at h1
    rw [show n = 0 by omega]; simp
  · apply Str.ext'
    apply Array.toList_inj.mp
    rw [StrLaws.strSub_toList, show (S (H ++ List.replicate n c)).cps.toList = _ from tl_S _, show (S H).cps.toList = _ from tl_S _]
    simp
end
end Mine

theorem Mine.quietE2 : True := by
  w_top off
  trivial
namespace Mine
open Builtin Builtin.Str
section
abbrev sl (k : Nat) : List Nat := List.replicate k 47
theorem rfind_cut {P T : List Nat} (hT : 47 ∉ T) (hP : P = [] ∨ ∃ P', P = P' ++ [47]) : Txt.rfind (S (P ++ T)) (S [47]) + 1 = ((P.length : Nat) : Int) := by
  rcases hP with rfl | ⟨P', rfl⟩
  · rw [List.nil_append, rfind_none hT]; rfl
  · rw [List.append_assoc, List.singleton_append, rfind_last hT, List.length_append]; rfl
theorem splitT_S {P T : List Nat} (hT : 47 ∉ T) (hP : P = [] ∨ ∃ P', P = P' ++ [47]) : splitT (S (P ++ T)) = S T := by
  unfold splitT
  rw [S_slash, rfind_cut hT hP, slice_sn, List.drop_left]
theorem splitH_S {P T : List Nat} (hT : 47 ∉ T) (hP : P = [] ∨ ∃ P', P = P' ++ [47]) : splitH (S (P ++ T)) = if P = [] then S P else if P = sl P.length then S P else Txt.rstripChars (S P) (S [47]) := by
  have e : Txt.slice (S (P ++ T)) none (some (Txt.rfind (S (P ++ T)) (S [47]) + 1)) = S P := by rw [rfind_cut hT hP, slice_ns, List.take_left]
  unfold splitH
  rw [S_slash, e, len_S, mul_S]
  by_cases h1 : P = []
  · rw [if_pos h1, if_neg (by rw [h1]; simp)]
  · rw [if_neg h1, if_pos (by have := List.length_pos_iff.mpr h1; omega)]
    have e2 : (S P != S (List.replicate ((P.length : Nat) : Int).toNat 47)) = !decide (P = sl P.length) := by
      rw [Int.toNat_natCast]
      by_cases h2 : P = sl P.length
      · have : S P = S (List.replicate P.length 47) := congrArg S h2
        simp [← h2]
      · have h3 : S P ≠ S (List.replicate P.length 47) := fun h => h2 (S_inj h)
        simp [h2, h3]
    rw [e2]
    by_cases h2 : P = sl P.length
    · rw [if_neg (by simpa using h2), if_pos h2]
    · rw [if_pos (by simpa using h2), if_neg h2]
theorem sl_end {k : Nat} (h : k ≠ 0) : ∃ P', sl k = P' ++ [47] := by
  obtain ⟨j, rfl⟩ : ∃ j, k = j + 1 := ⟨k - 1, by omega⟩
  exact ⟨sl j, by rw [sl, List.replicate_succ']⟩
theorem split_top {k : Nat} {T : List Nat} (hT : 47 ∉ T) : splitH (S (sl k ++ T)) = S (sl k) ∧ splitT (S (sl k ++ T)) = S T := by
  have hP : sl k = [] ∨ ∃ P', sl k = P' ++ [47] := by
    by_cases h : k = 0
    · subst h; exact .inl rfl
    · exact .inr (sl_end h)
  refine ⟨?_, splitT_S hT hP⟩
  rw [splitH_S hT hP]
  split
  · rfl
  · rw [if_pos (by simp [sl])]
theorem split_in {H T : List Nat} {r d : Nat} (hT : 47 ∉ T) (hd : H.getLast? = some d) (hn : d ≠ 47) (hr : r ≠ 0) : splitH (S (H ++ sl r ++ T)) = S H ∧ splitT (S (H ++ sl r ++ T)) = S T := by
  obtain ⟨P', hP'⟩ := sl_end hr
  have hP : H ++ sl r = [] ∨ ∃ P', H ++ sl r = P' ++ [47] := .inr ⟨H ++ P', by rw [hP', List.append_assoc]⟩
  refine ⟨?_, splitT_S hT hP⟩
  have hne : H ≠ [] := by rintro rfl; simp at hd
  rw [splitH_S hT hP, if_neg (by simp [hne]), if_neg, rstrip_S (.inr ⟨d, hd, hn⟩)]
  intro h
  have : d ∈ sl (H ++ sl r).length := by
    rw [← h]
    exact List.mem_append_left _ (List.mem_of_getLast? hd)
  exact hn (List.eq_of_mem_replicate this)

abbrev QS := List (List Nat × Nat)
def flt (q : QS) : List Nat := q.flatMap fun p => p.1 ++ sl p.2
def fld (q : QS) : List Nat := q.flatMap fun p => p.1 ++ [46]
structure Rep (l : List Nat) (s : PS) (k : Nat) (q : QS) (cur : List Nat) : Prop where
  path : l = sl k ++ flt q ++ cur
  lead : s.lead = S (sl k)
  names : s.names = (q.map (·.1) ++ [cur]).map S
  runs : s.runs = (q.map fun p => sl p.2).map S
  good : ∀ p ∈ q, p.1 ≠ [] ∧ 47 ∉ p.1 ∧ p.2 ≠ 0
  goodc : 47 ∉ cur
  last : (s.last = S [47] → cur = []) ∧ (s.last ≠ S [47] → cur = [] → l = [])
theorem setLast_S (q : QS) (cur c : List Nat) : setLast ((q.map (·.1) ++ [cur]).map S) (S c) = (q.map (·.1) ++ [c]).map S := by
  unfold setLast
  have h : ((q.map (·.1) ++ [cur]).map S).length - 1 = (q.map fun p => S p.1).length := by simp
  rw [h]
  simp [List.set_append]
theorem lastS_S (q : QS) (cur : List Nat) : lastS ((q.map (·.1) ++ [cur]).map S) = S cur := by
  unfold lastS
  have h : ((q.map (·.1) ++ [cur]).map S).length - 1 = (q.map fun p => S p.1).length := by simp
  rw [h]
  simp
theorem lastS_snoc (l : List Str) (x : Str) : lastS (l ++ [x]) = x := by
  unfold lastS; simp
theorem setLast_snoc (l : List Str) (x y : Str) : setLast (l ++ [x]) y = l ++ [y] := by
  unfold setLast; simp [List.set_append]
theorem rep_step {l : List Nat} {s : PS} {k : Nat} {q : QS} {cur : List Nat} (c : Nat) (h : Rep l s k q cur) : ∃ k' q' cur', Rep (l ++ [c]) (stepP c s) k' q' cur' := by
  obtain ⟨h1, h2, h3, h4, h5, h6, h7⟩ := h
  unfold stepP
  rw [S_slash, S_nil]
  by_cases hc : c = 47
  · subst hc
    rw [if_neg (by simp)]
    by_cases hn : s.names = [S []]
    · rw [if_pos hn]
      have e : q = [] ∧ cur = [] := by
        rw [h3] at hn
        cases q with
        | nil => exact ⟨rfl, S_inj (List.cons.inj hn).1⟩
        | cons a b => simp at hn
      obtain ⟨rfl, rfl⟩ := e
      refine ⟨k + 1, [], [], ?_, ?_, ?_, ?_, h5, h6, fun _ => rfl, fun hh => absurd rfl hh⟩
      · rw [h1]; simp [flt, sl, List.replicate_succ']
      · show s.lead ++ S [47] = _
        rw [h2, S_append]; simp [sl, List.replicate_succ']
      · exact hn
      · exact h4
    · rw [if_neg hn]
      have hq : q ≠ [] ∨ cur ≠ [] := by
        apply Classical.byContradiction
        intro hh
        have h8 : q = [] := Classical.byContradiction fun z => hh (.inl z)
        have h9 : cur = [] := Classical.byContradiction fun z => hh (.inr z)
        apply hn; rw [h3, h8, h9]; rfl
      by_cases hl : s.last = S [47]
      · rw [if_pos hl]
        obtain rfl := h7.1 hl
        have hq : q ≠ [] := hq.resolve_right fun z => z rfl
        obtain ⟨q', ⟨nm, r⟩, rfl⟩ : ∃ q' p, q = q' ++ [p] := ⟨q.dropLast, q.getLast hq, (List.dropLast_concat_getLast hq).symm⟩
        refine ⟨k, q' ++ [(nm, r + 1)], [], ?_, h2, ?_, ?_, ?_, h6, fun _ => rfl, fun hh => absurd rfl hh⟩
        · rw [h1]; simp [flt, sl, List.replicate_succ']
        · show s.names = _
          rw [h3]; simp
        · show setLast s.runs (lastS s.runs ++ S [47]) = _
          rw [h4, List.map_append, List.map_append, List.map_singleton, List.map_singleton, lastS_snoc, setLast_snoc, S_append]
          simp [sl, List.replicate_succ']
        · intro p hp
          rcases List.mem_append.mp hp with hp | hp
          · exact h5 p (List.mem_append_left _ hp)
          · rw [List.mem_singleton.mp hp]
            have := h5 (nm, r) (List.mem_append_right _ (.head _))
            exact ⟨this.1, this.2.1, Nat.succ_ne_zero _⟩
      · rw [if_neg hl]
        have hcur : cur ≠ [] := by
          intro hh
          have hl2 := h7.2 hl hh
          rw [hl2] at h1
          rcases hq with hq | hq
          · apply hq
            cases q with
            | nil => rfl
            | cons a b =>
              have h8 := congrArg List.length h1
              have h9 := (h5 a (.head _)).2.2
              simp [flt, sl] at h8
              omega
          · exact hq hh
        refine ⟨k, q ++ [(cur, 1)], [], ?_, h2, ?_, ?_, ?_, by simp, fun _ => rfl, fun hh => absurd rfl hh⟩
        · rw [h1]; simp [flt, sl]
        · show s.names ++ [S []] = _
          rw [h3]; simp
        · show s.runs ++ [S [47]] = _
          rw [h4]; simp [sl]
        · intro p hp
          rcases List.mem_append.mp hp with hp | hp
          · exact h5 p hp
          · rw [List.mem_singleton.mp hp]
            exact ⟨hcur, h6, by simp⟩
  · have hc2 : S [c] ≠ S [47] := fun h => hc (by have := S_inj h; simpa using this)
    rw [if_pos hc2]
    refine ⟨k, q, cur ++ [c], ?_, h2, ?_, h4, h5, ?_, fun hh => absurd hh hc2, fun _ hh => absurd hh (by simp)⟩
    · rw [h1]; simp
    · show setLast s.names (lastS s.names ++ S [c]) = _
      rw [h3, lastS_S, S_append, setLast_S]
    · intro hm
      rcases List.mem_append.mp hm with hm | hm
      · exact h6 hm
      · exact hc (List.mem_singleton.mp hm).symm
theorem rep_all (l : List Nat) : ∃ k q cur, Rep l (partsP l) k q cur := by
  have key : ∀ (m : Nat), ∃ k q cur, Rep (l.take m) (partsP (l.take m)) k q cur := by
    intro m
    induction m with
    | zero => exact ⟨0, [], [], rfl, rfl, rfl, rfl, by simp, by simp, fun _ => rfl, fun _ _ => rfl⟩
    | succ m ih =>
      obtain ⟨k, q, cur, h⟩ := ih
      cases hm : l[m]? with
      | none => rw [List.take_add_one, hm]; simpa using ⟨k, q, cur, h⟩
      | some c =>
        obtain ⟨k', q', cur', h'⟩ := rep_step c h
        refine ⟨k', q', cur', ?_⟩
        rw [List.take_add_one, hm]
        have e : partsP (l.take m ++ [c]) = stepP c (partsP (l.take m)) := by unfold partsP; simp
        show Rep (l.take m ++ [c]) (partsP (l.take m ++ [c])) k' q' cur'
        rw [e]; exact h'
  have := key l.length
  rwa [List.take_length] at this
def dueL (k : Nat) (q : QS) (cur : List Nat) (s : Nat) : List Nat := sl k ++ List.replicate (s - q.length) 46 ++ flt (q.take (q.length - s)) ++ fld (q.drop (q.length - s)) ++ cur
def sepAt (q : QS) (left : Int) (j : Nat) : List Nat := if ((j : Int) + 1 ≤ left) then sl ((q[j]?).getD ([], 0)).2 else [46]
theorem flt_snoc (q : QS) (p : List Nat × Nat) : flt (q ++ [p]) = flt q ++ (p.1 ++ sl p.2) := by simp [flt]
theorem fld_snoc (q : QS) (p : List Nat × Nat) : fld (q ++ [p]) = fld q ++ (p.1 ++ [46]) := by simp [fld]
theorem dueAcc_S {l : List Nat} {s : PS} {k : Nat} {q : QS} {cur : List Nat} (h : Rep l s k q cur) (left : Nat) (hleft : left ≤ q.length) (leftI : Int) (hI : leftI = left ∨ (left = 0 ∧ leftI ≤ 0)) (t : List Nat) :
    ∀ j ≤ q.length, dueAcc s.names s.runs leftI (S t) (j + 1) = S (t ++ flt ((q.take j).take left) ++ fld ((q.take j).drop left) ++ ((q.map (·.1) ++ [cur])[j]?).getD []) := by
  have hnm : ∀ j, s.names.getD j Str.empty = S (((q.map (·.1) ++ [cur])[j]?).getD []) := by
    intro j
    rw [h.names, List.getD_eq_getElem?_getD, List.getElem?_map]
    cases ((q.map (·.1) ++ [cur])[j]?) <;> rfl
  have hrn : ∀ j, s.runs.getD j Str.empty = S (sl ((q[j]?).getD ([], 0)).2) := by
    intro j
    rw [h.runs, List.getD_eq_getElem?_getD, List.getElem?_map, List.getElem?_map]
    cases q[j]? <;> rfl
  intro j
  induction j with
  | zero =>
    intro _
    rw [dueAcc_succ]
    unfold dueStep
    rw [if_neg (by simp)]
    have e : dueAcc s.names s.runs leftI (S t) 0 = S t := rfl
    rw [e, show ((0 : Nat) : Int).toNat = 0 from rfl, hnm, S_append]
    simp [flt, fld]
  | succ j ih =>
    intro hj
    rw [dueAcc_succ, ih (by omega)]
    unfold dueStep
    rw [if_pos (by omega), show (((j + 1 : Nat) : Int) - 1).toNat = j by omega, Int.toNat_natCast, hnm, hrn, S_dot]
    have hjq : j < q.length := by omega
    have e1 : ((q.map (·.1) ++ [cur])[j]?).getD [] = q[j].1 := by
      rw [List.getElem?_append_left (by simpa using hjq), List.getElem?_map, List.getElem?_eq_getElem hjq]; rfl
    have e2 : (q[j]?).getD ([], 0) = q[j] := by rw [List.getElem?_eq_getElem hjq]; rfl
    have e3 : q.take (j + 1) = q.take j ++ [q[j]] := by rw [List.take_add_one, List.getElem?_eq_getElem hjq]; rfl
    rw [e1, e2, e3]
    have hlen : (q.take j).length = j := by rw [List.length_take]; omega
    by_cases hc : ((j + 1 : Nat) : Int) ≤ leftI
    · rw [if_pos hc]
      have hc2 : j + 1 ≤ left := by omega
      rw [List.take_of_length_le (l := q.take j) (by omega), List.take_of_length_le (l := q.take j ++ [q[j]]) (by simp; omega), List.drop_eq_nil_of_le (as := q.take j) (by omega), List.drop_eq_nil_of_le (as := q.take j ++ [q[j]]) (by simp; omega), flt_snoc, S_append, S_append]
      simp [fld]
    · rw [if_neg hc]
      have hc2 : left ≤ j := by omega
      rw [List.take_append_of_le_length (by omega), List.drop_append_of_le_length (by omega), fld_snoc, S_append, S_append]
      simp
theorem due_S {l : List Nat} {s : PS} {k : Nat} {q : QS} {cur : List Nat} (h : Rep l s k q cur) (st : Nat) : dueP s.lead s.names s.runs st = S (dueL k q cur st) := by
  have hr : s.runs.length = q.length := by rw [h.runs]; simp
  have hn : s.names.length = q.length + 1 := by rw [h.names]; simp
  unfold dueP
  rw [hr, hn, h.lead, S_dot, mul_S]
  have e : (if (q.length : Int) - (st : Int) < 0 then S (sl k) ++ S (List.replicate (0 - ((q.length : Int) - (st : Int))).toNat 46) else S (sl k)) = S (sl k ++ List.replicate (st - q.length) 46) := by
    split
    · rw [S_append]; congr 3; omega
    · rw [show st - q.length = 0 by omega]; simp
  rw [e, dueAcc_S h (q.length - st) (by omega) _ (by omega) _ q.length (Nat.le_refl _)]
  rw [List.take_length, List.getElem?_append_right (by simp)]
  unfold dueL
  simp
theorem fld_free {q : QS} (h : ∀ p ∈ q, p.1 ≠ [] ∧ 47 ∉ p.1 ∧ p.2 ≠ 0) : 47 ∉ fld q := by
  intro hm
  obtain ⟨p, hp, hq⟩ := List.mem_flatMap.mp hm
  rcases List.mem_append.mp hq with hq | hq
  · exact (h p hp).2.1 hq
  · simp at hq
theorem due_zero {l : List Nat} {s : PS} {k : Nat} {q : QS} {cur : List Nat} (h : Rep l s k q cur) : dueL k q cur 0 = l := by
  rw [h.path]
  unfold dueL
  simp [fld]
theorem due_next {l : List Nat} {s : PS} {k : Nat} {q : QS} {cur : List Nat} (h : Rep l s k q cur) (st : Nat) :
    splitH (S (dueL k q cur st)) ++ Str.ofString "." ++ splitT (S (dueL k q cur st)) = S (dueL k q cur (st + 1)) := by
  have hfree : ∀ m, 47 ∉ fld (q.drop m) ++ cur := by
    intro m hm
    rcases List.mem_append.mp hm with hm | hm
    · exact fld_free (fun p hp => h.good p (List.mem_of_mem_drop hp)) hm
    · exact h.goodc hm
  rw [S_dot]
  rcases Nat.lt_or_ge st q.length with hlt | hge
  · obtain ⟨m, hm⟩ : ∃ m, q.length - st = m + 1 := ⟨q.length - st - 1, by omega⟩
    have hmq : m < q.length := by omega
    have e3 : q.take (m + 1) = q.take m ++ [q[m]] := by rw [List.take_add_one, List.getElem?_eq_getElem hmq]; rfl
    have e1 : dueL k q cur st = (sl k ++ flt (q.take m) ++ q[m].1) ++ sl q[m].2 ++ (fld (q.drop (m + 1)) ++ cur) := by
      unfold dueL
      rw [hm, e3, flt_snoc, show st - q.length = 0 by omega]
      simp
    have e2 : dueL k q cur (st + 1) = (sl k ++ flt (q.take m) ++ q[m].1) ++ [46] ++ (fld (q.drop (m + 1)) ++ cur) := by
      unfold dueL
      rw [show q.length - (st + 1) = m by omega, show st + 1 - q.length = 0 by omega]
      have : fld (q.drop m) = q[m].1 ++ [46] ++ fld (q.drop (m + 1)) := by unfold fld; rw [List.drop_eq_getElem_cons hmq, List.flatMap_cons]
      rw [this]
      simp
    obtain ⟨g1, g2, g3⟩ := h.good q[m] (List.getElem_mem hmq)
    obtain ⟨d, hd⟩ : ∃ d, q[m].1.getLast? = some d := by
      cases hh : q[m].1.getLast? with
      | none => exact absurd (List.getLast?_eq_none_iff.mp hh) g1
      | some d => exact ⟨d, rfl⟩
    have hd2 : (sl k ++ flt (q.take m) ++ q[m].1).getLast? = some d := by
      rw [List.getLast?_append, hd]; rfl
    have hd3 : d ≠ 47 := fun e => g2 (e ▸ List.mem_of_getLast? hd)
    obtain ⟨r1, r2⟩ := split_in (hfree (m + 1)) hd2 hd3 g3
    rw [e1, r1, r2, e2, S_append, S_append]
  · have hz : q.length - st = 0 := by omega
    have hz2 : q.length - (st + 1) = 0 := by omega
    have e1 : dueL k q cur st = sl k ++ (List.replicate (st - q.length) 46 ++ (fld (q.drop 0) ++ cur)) := by
      unfold dueL; rw [hz]; simp [flt]
    have e2 : dueL k q cur (st + 1) = sl k ++ (46 :: (List.replicate (st - q.length) 46 ++ (fld (q.drop 0) ++ cur))) := by
      unfold dueL; rw [hz2, show st + 1 - q.length = (st - q.length) + 1 by omega, List.replicate_succ]; simp [flt]
    have hT : 47 ∉ (List.replicate (st - q.length) 46 ++ (fld (q.drop 0) ++ cur)) := by
      intro hm
      rcases List.mem_append.mp hm with hm | hm
      · have := List.eq_of_mem_replicate hm; omega
      · exact hfree 0 hm
    obtain ⟨r1, r2⟩ := split_top (k := k) hT
    rw [e1, r1, r2, e2, S_append, S_append]
    simp
end
end Mine

theorem Mine.quietE3 : True := by
  w_top off
  trivial
namespace Mine
open Builtin Builtin.Str
abbrev dueA (l : List Nat) (n : Nat) : Str := dueP (partsP l).lead (partsP l).names (partsP l).runs (n : Nat)
abbrev rd (d : Nat) : List Nat := List.replicate d 46
theorem spl_mem {c : Nat} : ∀ (l : List Nat), ∀ p ∈ spl c l, c ∉ p
  | [], p, hp => by
    have : p = [] := by simpa [spl] using hp
    rw [this]; simp
  | x :: r, p, hp => by
    have ih := spl_mem (c := c) r
    unfold spl at hp
    split at hp
    · rcases List.mem_cons.mp hp with rfl | hp
      · simp
      · exact ih p hp
    · rename_i hx
      cases h : spl c r with
      | nil => exact absurd h (spl_ne c r)
      | cons a b =>
        rw [h] at hp ih
        rcases List.mem_cons.mp hp with rfl | hp
        · intro hm
          rcases List.mem_cons.mp hm with e | hm
          · exact hx e.symm
          · exact ih a (.head _) hm
        · exact ih p (.tail _ hp)
theorem gl_spl {c : Nat} : ∀ (l : List Nat), gl c (spl c l) = l
  | [] => rfl
  | x :: r => by
    have ih := gl_spl (c := c) r
    unfold spl
    split
    · rename_i hx
      subst hx
      cases h : spl x r with
      | nil => exact absurd h (spl_ne x r)
      | cons a b =>
        rw [h] at ih
        show [] ++ x :: gl x (a :: b) = _
        rw [ih]; rfl
    · cases h : spl c r with
      | nil => exact absurd h (spl_ne c r)
      | cons a b =>
        rw [h] at ih
        dsimp only
        cases b with
        | nil => show x :: a = _; rw [← ih]; rfl
        | cons a' b' =>
          show (x :: a) ++ c :: gl c (a' :: b') = _
          rw [← ih]; rfl
def fd (c : Nat) (ws : List (List Nat)) : List Nat := ws.flatMap fun w => c :: w
theorem fd_nil (c : Nat) : fd c [] = [] := rfl
theorem fd_cons (c : Nat) (w : List Nat) (ws : List (List Nat)) : fd c (w :: ws) = c :: w ++ fd c ws := by simp [fd]
theorem fd_snoc (c : Nat) (w : List Nat) (ws : List (List Nat)) : fd c (ws ++ [w]) = fd c ws ++ c :: w := by simp [fd]
theorem gl_fd (c : Nat) (a : List Nat) : ∀ ws : List (List Nat), gl c (a :: ws) = a ++ fd c ws := by
  intro ws
  induction ws generalizing a with
  | nil => simp [gl, fd]
  | cons b r ih =>
    show a ++ c :: gl c (b :: r) = _
    rw [ih b, fd_cons]; simp
theorem fd_free {c k : Nat} {ws : List (List Nat)} (hk : k ≠ c) (h : ∀ w ∈ ws, k ∉ w) : k ∉ fd c ws := by
  intro hm
  obtain ⟨w, hw, hq⟩ := List.mem_flatMap.mp hm
  rcases List.mem_cons.mp hq with e | hq
  · exact hk e
  · exact h w hw hq
def pOk (z : List Nat) : Bool := S z != Str.ofString "" && S z != Str.ofString "."
theorem pOk_nil : pOk [] = false := by decide
def fs (l : List Nat) : List (List Nat) := (spl 47 l).filter pOk
theorem fs_sl (k : Nat) (X : List Nat) : fs (sl k ++ X) = fs X := by
  induction k with
  | zero => rfl
  | succ k ih =>
    have e : sl (k + 1) ++ X = [] ++ 47 :: (sl k ++ X) := by simp [sl, List.replicate_succ]
    rw [e]
    unfold fs at ih ⊢
    rw [spl_cut (by simp), List.filter_cons, pOk_nil]
    simpa using ih
theorem fs_cut {a : List Nat} (ha : 47 ∉ a) (X : List Nat) : fs (a ++ 47 :: X) = [a].filter pOk ++ fs X := by
  unfold fs
  rw [spl_cut ha, ← List.singleton_append, List.filter_append]
theorem fs_one {a : List Nat} (ha : 47 ∉ a) : fs a = [a].filter pOk := by
  unfold fs; rw [spl_free ha]
theorem fs_flt {q : QS} {cur : List Nat} (h : ∀ p ∈ q, p.1 ≠ [] ∧ 47 ∉ p.1 ∧ p.2 ≠ 0) (hc : 47 ∉ cur) : fs (flt q ++ cur) = (q.map (·.1) ++ [cur]).filter pOk := by
  induction q with
  | nil => exact fs_one hc
  | cons a r ih =>
    obtain ⟨_, h2, h3⟩ := h a (.head _)
    obtain ⟨j, hj⟩ : ∃ j, a.2 = j + 1 := ⟨a.2 - 1, by omega⟩
    have e : flt (a :: r) ++ cur = a.1 ++ 47 :: (sl j ++ (flt r ++ cur)) := by
      have : flt (a :: r) = (a.1 ++ sl a.2) ++ flt r := rfl
      rw [this, hj]; simp [sl, List.replicate_succ]
    rw [e, fs_cut h2, fs_sl, ih fun p hp => h p (.tail _ hp), List.map_cons, List.cons_append, ← List.singleton_append, ← List.filter_append]
    rfl
theorem filt_S (ps : List (List Nat)) : (ps.map S).filter (fun z => z != Str.ofString "" && z != Str.ofString ".") = (ps.filter pOk).map S := by
  rw [List.filter_map]; rfl
theorem comps_S (l : List Nat) : comps (S l) = (fs l).map S := by
  unfold comps
  rw [S_slash, split_S, filt_S]; rfl
theorem head_sl {k : Nat} {X : List Nat} (hX : X[0]? ≠ some 47) : ((sl k ++ X)[0]? = some 47) ↔ k ≠ 0 := by
  cases k with
  | zero => simpa using hX
  | succ k => simp [sl, List.replicate_succ]
theorem flt_head {q : QS} {cur : List Nat} (h : ∀ p ∈ q, p.1 ≠ [] ∧ 47 ∉ p.1 ∧ p.2 ≠ 0) (hc : 47 ∉ cur) : (flt q ++ cur)[0]? ≠ some 47 := by
  intro h0
  cases q with
  | nil => exact hc (List.mem_of_getElem? h0)
  | cons a r =>
    obtain ⟨h1, h2, _⟩ := h a (.head _)
    cases ha : a.1 with
    | nil => exact h1 ha
    | cons x y =>
      have e : flt (a :: r) = (a.1 ++ sl a.2) ++ flt r := rfl
      rw [e, ha] at h0
      have : x = 47 := by simpa using h0
      apply h2; rw [ha, this]; exact .head _
theorem common_plain (l : List Nat) : commonP (S l) = Txt.slice (partsP l).lead none (some 1) ++ Str.join (Str.ofString "/") ((partsP l).names.filter (fun z => z != Str.ofString "" && z != Str.ofString ".")) := by
  obtain ⟨k, q, cur, h⟩ := rep_all l
  unfold commonP
  have e1 : comps (S l) = (partsP l).names.filter (fun z => z != Str.ofString "" && z != Str.ofString ".") := by
    rw [comps_S, h.names, filt_S, ← fs_flt h.good h.goodc]
    conv => lhs; rw [h.path]
    rw [List.append_assoc, fs_sl]
  rw [e1, h.lead]
  congr 1
  have e2 : Txt.slice (S (sl k)) none (some 1) = S ((sl k).take 1) := slice_ns (sl k) 1
  rw [e2, S_slash, startswith_S]
  have e3 : (l[0]? = some 47) ↔ k ≠ 0 := by
    conv => lhs; rw [h.path, List.append_assoc]
    exact head_sl (flt_head h.good h.goodc)
  by_cases hk : k = 0
  · rw [if_neg (by simpa [hk] using e3)]
    subst hk; rfl
  · rw [if_pos (decide_eq_true (e3.mpr hk))]
    obtain ⟨j, rfl⟩ : ∃ j, k = j + 1 := ⟨k - 1, by omega⟩
    simp [sl, List.replicate_succ]
theorem due_0 (l : List Nat) : dueA l 0 = S l := by
  obtain ⟨k, q, cur, h⟩ := rep_all l
  exact (due_S h 0).trans (congrArg S (due_zero h))
theorem due_1 (l : List Nat) (n : Nat) : splitH (dueA l n) ++ Str.ofString "." ++ splitT (dueA l n) = dueA l (n + 1) := by
  obtain ⟨k, q, cur, h⟩ := rep_all l
  show splitH (dueP _ _ _ (n : Nat)) ++ _ ++ splitT (dueP _ _ _ (n : Nat)) = dueP _ _ _ ((n + 1 : Nat) : Int)
  rw [due_S h n, due_S h (n + 1)]
  exact due_next h n
theorem names_runs (l : List Nat) : (partsP l).names.length = (partsP l).runs.length + 1 := by
  obtain ⟨k, q, cur, h⟩ := rep_all l
  rw [h.names, h.runs]; simp
theorem flt_le (q : QS) (h : ∀ p ∈ q, p.1 ≠ [] ∧ 47 ∉ p.1 ∧ p.2 ≠ 0) : q.length ≤ (flt q).length := by
  induction q with
  | nil => exact Nat.le_refl _
  | cons a r ih =>
    have h1 := ih fun p hp => h p (.tail _ hp)
    have h2 := (h a (.head _)).2.2
    have e : flt (a :: r) = (a.1 ++ sl a.2) ++ flt r := rfl
    rw [e, List.length_cons, List.length_append, List.length_append, sl, List.length_replicate]
    omega
theorem runs_le (l : List Nat) : (partsP l).runs.length ≤ l.length := by
  obtain ⟨k, q, cur, h⟩ := rep_all l
  have h1 := flt_le q h.good
  have h2 := congrArg List.length h.path
  simp only [List.length_append] at h2
  have e : (partsP l).runs.length = q.length := by rw [h.runs]; simp
  rw [e]
  exact Nat.le_trans h1 (by rw [h2]; exact Nat.le_trans (Nat.le_add_left _ _) (Nat.le_add_right _ _))
theorem fld_le (q : QS) (h : ∀ p ∈ q, p.1 ≠ [] ∧ 47 ∉ p.1 ∧ p.2 ≠ 0) : (fld q).length ≤ (flt q).length := by
  induction q with
  | nil => exact Nat.le_refl _
  | cons a r ih =>
    have h1 := ih fun p hp => h p (.tail _ hp)
    have h2 := (h a (.head _)).2.2
    have e : flt (a :: r) = (a.1 ++ sl a.2) ++ flt r := rfl
    have e2 : fld (a :: r) = (a.1 ++ [46]) ++ fld r := rfl
    rw [e, e2]
    simp only [List.length_append, sl, List.length_replicate, List.length_cons, List.length_nil]
    omega
theorem flt_app (a b : QS) : flt (a ++ b) = flt a ++ flt b := by simp [flt]
theorem due_len (l : List Nat) (n : Nat) : (dueA l n).length ≤ l.length + n := by
  obtain ⟨k, q, cur, h⟩ := rep_all l
  show (dueP _ _ _ (n : Nat)).length ≤ _
  rw [due_S h n, len_S]
  have h1 := congrArg List.length h.path
  have e : flt q = flt (q.take (q.length - n)) ++ flt (q.drop (q.length - n)) := by rw [← flt_app, List.take_append_drop]
  rw [e] at h1
  have h2 := fld_le (q.drop (q.length - n)) fun p hp => h.good p (List.mem_of_mem_drop hp)
  unfold dueL
  simp only [List.length_append, sl, List.length_replicate] at h1 ⊢
  omega
theorem due_mem {l : List Nat} {k : Nat} {q : QS} {cur : List Nat} {s : PS} (h : Rep l s k q cur) (n : Nat) : ∀ c ∈ dueL k q cur n, c = 46 ∨ c ∈ l := by
  intro c hc
  have e : flt q = flt (q.take (q.length - n)) ++ flt (q.drop (q.length - n)) := by rw [← flt_app, List.take_append_drop]
  rw [h.path, e]
  unfold dueL at hc
  simp only [List.mem_append] at hc ⊢
  rcases hc with (((hc | hc) | hc) | hc) | hc
  · exact .inr (.inl (.inl hc))
  · exact .inl (List.eq_of_mem_replicate hc)
  · exact .inr (.inl (.inr (.inl hc)))
  · obtain ⟨p, hp, hq⟩ := List.mem_flatMap.mp hc
    rcases List.mem_append.mp hq with hq | hq
    · exact .inr (.inl (.inr (.inr (List.mem_flatMap.mpr ⟨p, hp, List.mem_append_left _ hq⟩))))
    · exact .inl (List.mem_singleton.mp hq)
  · exact .inr (.inr hc)
theorem due_tail {k : Nat} {q : QS} {cur : List Nat} {n : Nat} (hn : q.length ≤ n) : dueL k q cur n = sl k ++ (rd (n - q.length) ++ fld q ++ cur) := by
  unfold dueL
  rw [show q.length - n = 0 by omega]
  simp [flt]
theorem tail_free {q : QS} {cur : List Nat} {d : Nat} (h : ∀ p ∈ q, p.1 ≠ [] ∧ 47 ∉ p.1 ∧ p.2 ≠ 0) (hc : 47 ∉ cur) : 47 ∉ (rd d ++ fld q ++ cur) := by
  intro hm
  simp only [List.mem_append] at hm
  rcases hm with (hm | hm) | hm
  · have := List.eq_of_mem_replicate hm; omega
  · exact fld_free h hm
  · exact hc hm
theorem eq_rd : ∀ (d : Nat) (T : List Nat), (∀ j < d, T[j]? = some 46) → T = rd d ++ T.drop d
  | 0, T, _ => by simp
  | d + 1, T, h => by
    cases T with
    | nil => have := h 0 (Nat.succ_pos _); simp at this
    | cons x r =>
      have h0 := h 0 (Nat.succ_pos _)
      obtain rfl : x = 46 := by simpa using h0
      have ih := eq_rd d r fun j hj => by have := h (j + 1) (Nat.succ_lt_succ hj); simpa using this
      rw [rd, List.replicate_succ, List.cons_append, List.drop_succ_cons]
      rw [← ih]
structure Shape (k : Nat) (T : List Nat) (root : Str) (ws : List Str) (d : Nat) (w0 : List Nat) (wr : List (List Nat)) : Prop where
  root : root = S (sl k ++ rd d ++ w0)
  ws : ws = wr.map S
  eq : T = rd d ++ w0 ++ fd 46 wr
  pre : ∀ j < d, T[j]? = some 46
  stop : T[d]? ≠ some 46
  spl : w0 :: wr = Mine.spl 46 (T.drop d)
  free0 : 46 ∉ w0
  free : ∀ w ∈ wr, 46 ∉ w
  ne : wr ≠ [] → w0 ≠ []
theorem shape {k : Nat} {T : List Nat} {root : Str} {ws : List Str} (h : WordsP (S (sl k)) (S (sl k ++ T)) root ws) : ∃ d w0 wr, Shape k T root ws d w0 wr := by
  obtain ⟨d, hd, hpre, hstop, parts, hparts, hroot, hws⟩ := h
  have hw : wName (S (sl k)) (S (sl k ++ T)) = S T := by
    unfold wName
    rw [len_S, slice_sn]
    have : (sl k ++ T).drop (sl k).length = T := List.drop_left
    rw [this]
  rw [hw, tl_S] at hpre hstop
  rw [hw, slice_sn, S_dot, split_S] at hparts
  have hne := spl_ne 46 (T.drop d)
  cases hs : Mine.spl 46 (T.drop d) with
  | nil => exact absurd hs hne
  | cons w0 wr =>
    rw [hs] at hparts
    subst hparts
    have hmem := spl_mem (c := 46) (T.drop d)
    have hgl := gl_spl (c := 46) (T.drop d)
    rw [hs] at hmem hgl
    rw [gl_fd] at hgl
    refine ⟨d, w0, wr, ?_, ?_, ?_, hpre, hstop, hs.symm, hmem w0 (.head _), fun w hw => hmem w (.tail _ hw), ?_⟩
    · rw [hroot, S_dot, mul_S, Int.toNat_natCast]
      show S (sl k) ++ S (rd d) ++ S w0 = _
      rw [S_append (sl k) (rd d), S_append (sl k ++ rd d) w0]
    · rw [hws]; rfl
    · rw [List.append_assoc, hgl]; exact eq_rd d T hpre
    · intro h1 h2
      subst h2
      cases wr with
      | nil => exact h1 rfl
      | cons w r =>
        rw [fd_cons] at hgl
        apply hstop
        have : (T.drop d)[0]? = some 46 := by rw [← hgl]; rfl
        simpa using this
theorem due_shape {l : List Nat} {n : Nat} {root : Str} {ws : List Str} (hn : (partsP l).runs.length ≤ n) (h : WordsP (partsP l).lead (dueA l n) root ws) :
    ∃ k q cur d w0 wr, Rep l (partsP l) k q cur ∧ q.length ≤ n ∧ dueA l n = S (sl k ++ (rd (n - q.length) ++ fld q ++ cur)) ∧ Shape k (rd (n - q.length) ++ fld q ++ cur) root ws d w0 wr ∧ 47 ∉ (rd (n - q.length) ++ fld q ++ cur) := by
  obtain ⟨k, q, cur, hr⟩ := rep_all l
  have e : (partsP l).runs.length = q.length := by rw [hr.runs]; simp
  rw [e] at hn
  have e2 : dueA l n = S (sl k ++ (rd (n - q.length) ++ fld q ++ cur)) := by
    show dueP _ _ _ (n : Nat) = _
    rw [due_S hr n, due_tail hn]
  rw [e2, hr.lead] at h
  obtain ⟨d, w0, wr, hs⟩ := shape h
  exact ⟨k, q, cur, d, w0, wr, hr, hn, e2, hs, tail_free hr.good hr.goodc⟩
theorem strOk_S {z : List Nat} (h : ∀ c ∈ z, c < 128) : PyData.strOk (S z) = true := by
  induction z with
  | nil => decide +kernel
  | cons c r ih =>
    have e : S (c :: r) = S [c] ++ S r := by rw [S_append]; rfl
    rw [e]
    exact strOk_app (strOk_one (h c (.head _))) (ih fun x hx => h x (.tail _ hx))
theorem fd_len (c : Nat) (ws : List (List Nat)) : ws.length ≤ (fd c ws).length ∧ ∀ w ∈ ws, w.length ≤ (fd c ws).length := by
  induction ws with
  | nil => exact ⟨Nat.le_refl _, by simp⟩
  | cons a r ih =>
    rw [fd_cons, List.length_append, List.length_cons, List.length_cons]
    refine ⟨by omega, fun w hw => ?_⟩
    rcases List.mem_cons.mp hw with rfl | hw
    · omega
    · have := ih.2 w hw; omega
theorem split_len {l : List Nat} {n : Nat} (h : l.length + n ≤ 90) : (splitH (dueA l n)).length ≤ 101 ∧ (splitT (dueA l n)).length ≤ 101 := by
  have h1 := congrArg Str.length (due_1 l n)
  have h2 := due_len l (n + 1)
  rw [Str.length_append, Str.length_append] at h1
  omega
theorem words_ok {l : List Nat} {n : Nat} {root : Str} {ws : List Str} (hn : (partsP l).runs.length ≤ n) (hl : l.length + n ≤ 90) (hok : ∀ c ∈ l, c < 128) (h : WordsP (partsP l).lead (dueA l n) root ws) :
    root.length ≤ 100 ∧ ws.length ≤ 100 ∧ (∀ y ∈ ws, y.length ≤ 100) ∧ PyData.strOk root = true ∧ ∀ y ∈ ws, PyData.strOk y = true := by
  have hlen := due_len l n
  obtain ⟨k, q, cur, d, w0, wr, hr, hq, hd, hs, _⟩ := due_shape hn h
  rw [hd, len_S, hs.eq] at hlen
  have hch : ∀ c ∈ sl k ++ (rd d ++ w0 ++ fd 46 wr), c < 128 := by
    intro c hc
    rw [← hs.eq, ← due_tail hq] at hc
    rcases due_mem hr n c hc with rfl | hc
    · decide
    · exact hok c hc
  obtain ⟨f1, f2⟩ := fd_len 46 wr
  simp only [List.length_append] at hlen
  rw [hs.root, hs.ws]
  refine ⟨?_, ?_, ?_, strOk_S fun c hc => hch c ?_, ?_⟩
  · rw [len_S]; simp only [List.length_append]; omega
  · rw [List.length_map]; omega
  · intro y hy
    obtain ⟨w, hw, rfl⟩ := List.mem_map.mp hy
    rw [len_S]; have := f2 w hw; omega
  · simp only [List.mem_append] at hc ⊢
    rcases hc with (hc | hc) | hc
    · exact .inl hc
    · exact .inr (.inl (.inl hc))
    · exact .inr (.inl (.inr hc))
  · intro y hy
    obtain ⟨w, hw, rfl⟩ := List.mem_map.mp hy
    refine strOk_S fun c hc => hch c ?_
    exact List.mem_append_right _ (List.mem_append_right _ (List.mem_flatMap.mpr ⟨w, hw, .tail _ hc⟩))
theorem dot_at {x : List Nat} {a n : Nat} {z : Int} (hz : z + 1 = (a : Int)) : (Txt.slice (S x) (some (z + 1 + n)) (some (z + 1 + n + 1)) != Str.ofString ".") = !decide (x[a + n]? = some 46) := by
  have h := one_dot x (a + n)
  have e : z + 1 + (n : Int) = ((a + n : Nat) : Int) := by omega
  rw [e]
  show (!(Txt.slice (S x) (some ((a + n : Nat) : Int)) (some (((a + n : Nat) : Int) + 1)) == Str.ofString ".")) = _
  rw [h]
theorem sl_cut (k : Nat) : sl k = [] ∨ ∃ P', sl k = P' ++ [47] := by
  by_cases h : k = 0
  · subst h; exact .inl rfl
  · exact .inr (sl_end h)
theorem usplit_mid {k m c : Nat} {N w : List Nat} {a b : Str} (hN : 47 ∉ N) (hw : 47 ∉ w) (hw2 : 46 ∉ w) (hm : N[m]? = some c) (hc : c ≠ 46) (h : USplit (S (sl k ++ N ++ 46 :: w)) a b) : a = S (sl k ++ N) ∧ b = S (46 :: w) := by
  have hT : 47 ∉ N ++ 46 :: w := by
    intro hq
    rcases List.mem_append.mp hq with hq | hq
    · exact hN hq
    · rcases List.mem_cons.mp hq with e | hq
      · omega
      · exact hw hq
  have h1 : Txt.rfind (S (sl k ++ N ++ 46 :: w)) (S [47]) + 1 = (((sl k).length : Nat) : Int) := by rw [List.append_assoc]; exact rfind_cut hT (sl_cut k)
  have h2 : Txt.rfind (S (sl k ++ N ++ 46 :: w)) (S [46]) = (((sl k ++ N).length : Nat) : Int) := rfind_last hw2
  have hlt : m < N.length := (List.getElem?_eq_some_iff.mp hm).1
  unfold USplit at h
  rw [S_slash, S_dot] at h
  rcases h with ⟨_, _, ha, hb⟩ | ⟨h3, _, _⟩
  · rw [h2] at ha hb
    rw [ha, hb, slice_ns, slice_sn]
    exact ⟨by rw [List.take_left], by rw [List.drop_left]⟩
  · exfalso
    have hlen : (sl k ++ N).length = (sl k).length + N.length := List.length_append
    rcases h3 with h3 | h3
    · apply h3; rw [h2]; omega
    · have h4 := h3 m (by rw [h1, h2]; omega)
      unfold dotD at h4
      rw [S_slash, dot_at h1] at h4
      have h5 : (sl k ++ N ++ 46 :: w)[(sl k).length + m]? = some c := by
        rw [List.append_assoc, List.getElem?_append_right (by omega), Nat.add_sub_cancel_left, List.getElem?_append_left hlt]; exact hm
      rw [h5] at h4
      simp [hc] at h4
theorem usplit_end {k d : Nat} {w : List Nat} {a b : Str} (hw : 47 ∉ w) (hw2 : 46 ∉ w) (h : USplit (S (sl k ++ rd d ++ w)) a b) : b = S [] := by
  have hT : 47 ∉ rd d ++ w := by
    intro hq
    rcases List.mem_append.mp hq with hq | hq
    · have := List.eq_of_mem_replicate hq; omega
    · exact hw hq
  have h1 : Txt.rfind (S (sl k ++ rd d ++ w)) (S [47]) + 1 = (((sl k).length : Nat) : Int) := by rw [List.append_assoc]; exact rfind_cut hT (sl_cut k)
  unfold USplit at h
  rw [S_slash, S_dot] at h
  rcases h with ⟨h2, ⟨n, hn, h3⟩, _, _⟩ | ⟨_, _, hb⟩
  · exfalso
    cases d with
    | zero =>
      have h4 : Txt.rfind (S (sl k ++ rd 0 ++ w)) (S [46]) = -1 := rfind_none (by
        intro hq
        simp only [rd, List.replicate_zero, List.append_nil, List.mem_append] at hq
        rcases hq with hq | hq
        · have := List.eq_of_mem_replicate hq; omega
        · exact hw2 hq)
      omega
    | succ d =>
      have e : sl k ++ rd (d + 1) ++ w = (sl k ++ rd d) ++ 46 :: w := by rw [rd, List.replicate_succ']; simp
      have h4 : Txt.rfind (S (sl k ++ rd (d + 1) ++ w)) (S [46]) = (((sl k ++ rd d).length : Nat) : Int) := by rw [e]; exact rfind_last hw2
      have hlen : (sl k ++ rd d).length = (sl k).length + d := by simp [sl, rd]
      unfold dotD at h3
      rw [S_slash, dot_at h1] at h3
      have hnd : n < d := by omega
      have h5 : (sl k ++ rd (d + 1) ++ w)[(sl k).length + n]? = some 46 := by
        rw [List.append_assoc, List.getElem?_append_right (by omega), Nat.add_sub_cancel_left, List.getElem?_append_left (by simp [rd]; omega), rd, List.getElem?_replicate, if_pos (by omega)]
      rw [h5] at h3
      simp at h3
  · rw [hb]; exact slice_ns _ 0
theorem peel_inv {k d : Nat} {w0 : List Nat} {wr : List (List Nat)} (f0 : 46 ∉ w0) (f : ∀ w ∈ wr, 46 ∉ w) (g0 : 47 ∉ w0) (g : ∀ w ∈ wr, 47 ∉ w) (ne : wr ≠ [] → w0 ≠ []) {i : Nat} {r : Str} {ws : List Str} (h : Peel (S (sl k ++ rd d ++ w0 ++ fd 46 wr)) i r ws) :
    ∃ j, j ≤ wr.length ∧ r = S (sl k ++ rd d ++ w0 ++ fd 46 (wr.take j)) ∧ ws = (wr.drop j).map S ∧
      ∀ u v, USplit r u v → (j = 0 → v = S []) ∧ (∀ j' w, j = j' + 1 → wr[j']? = some w → u = S (sl k ++ rd d ++ w0 ++ fd 46 (wr.take j')) ∧ v = S (46 :: w)) := by
  have use : ∀ j, j ≤ wr.length → ∀ u v, USplit (S (sl k ++ rd d ++ w0 ++ fd 46 (wr.take j))) u v → (j = 0 → v = S []) ∧ (∀ j' w, j = j' + 1 → wr[j']? = some w → u = S (sl k ++ rd d ++ w0 ++ fd 46 (wr.take j')) ∧ v = S (46 :: w)) := by
    intro j hj u v hu
    refine ⟨?_, ?_⟩
    · rintro rfl
      simp only [List.take_zero, fd_nil, List.append_nil] at hu
      exact usplit_end g0 f0 hu
    · rintro j' w rfl hw
      have hwm := List.mem_of_getElem? hw
      rw [List.take_add_one, hw, Option.toList_some, fd_snoc] at hu
      have hne := ne (by intro e; rw [e] at hw; simp at hw)
      obtain ⟨c, r0, hcr⟩ : ∃ c r0, w0 = c :: r0 := by
        cases w0 with
        | nil => exact absurd rfl hne
        | cons c r0 => exact ⟨c, r0, rfl⟩
      have hc : c ≠ 46 := fun e => f0 (by rw [hcr, e]; exact .head _)
      have e1 : sl k ++ rd d ++ w0 ++ (fd 46 (wr.take j') ++ 46 :: w) = sl k ++ (rd d ++ w0 ++ fd 46 (wr.take j')) ++ 46 :: w := by simp
      rw [e1] at hu
      have hN : 47 ∉ rd d ++ w0 ++ fd 46 (wr.take j') := by
        intro hq
        simp only [List.mem_append] at hq
        rcases hq with (hq | hq) | hq
        · have := List.eq_of_mem_replicate hq; omega
        · exact g0 hq
        · exact fd_free (by decide) (fun z hz => g z (List.mem_of_mem_take hz)) hq
      have hmid : (rd d ++ w0 ++ fd 46 (wr.take j'))[d]? = some c := by
        rw [List.append_assoc, List.getElem?_append_right (by simp [rd]), hcr]; simp [rd]
      obtain ⟨ha, hb⟩ := usplit_mid hN (g w hwm) (f w hwm) hmid hc hu
      exact ⟨by rw [ha]; simp, hb⟩
  generalize hx : S (sl k ++ rd d ++ w0 ++ fd 46 wr) = x at h
  induction h with
  | zero =>
    subst hx
    have h1 := use wr.length (Nat.le_refl _)
    rw [List.take_length] at h1
    exact ⟨wr.length, Nat.le_refl _, by rw [List.take_length], by simp, h1⟩
  | step hp hu hv ih =>
    obtain ⟨j, hj, hr, hws, hus⟩ := ih
    obtain ⟨h0, hs⟩ := hus _ _ hu
    cases j with
    | zero =>
      exfalso
      rw [h0 rfl, ← S_nil] at hv
      simp at hv
    | succ j =>
      have hlt : j < wr.length := hj
      obtain ⟨hu2, hv2⟩ := hs j wr[j] rfl (List.getElem?_eq_getElem hlt)
      refine ⟨j, Nat.le_of_lt hlt, hu2, ?_, ?_⟩
      · rw [hv2, hws]
        have e1 : Txt.slice (S (46 :: wr[j])) (some 1) none = S wr[j] := slice_sn (46 :: wr[j]) 1
        rw [e1, List.drop_eq_getElem_cons hlt]; rfl
      · rw [hu2]; exact use j (Nat.le_of_lt hlt)
theorem shape_free {k : Nat} {T : List Nat} {root : Str} {ws : List Str} {d : Nat} {w0 : List Nat} {wr : List (List Nat)} (hs : Shape k T root ws d w0 wr) (hT : 47 ∉ T) : 47 ∉ w0 ∧ ∀ w ∈ wr, 47 ∉ w := by
  rw [hs.eq] at hT
  refine ⟨fun hm => hT ?_, fun w hw hm => hT ?_⟩
  · exact List.mem_append_left _ (List.mem_append_right _ hm)
  · exact List.mem_append_right _ (List.mem_flatMap.mpr ⟨w, hw, .tail _ hm⟩)
theorem words_peel {l : List Nat} {n i : Nat} {root rest u z : Str} {ws ws' : List Str} (hn : (partsP l).runs.length ≤ n) (h : WordsP (partsP l).lead (dueA l n) root ws) (hp : Peel (dueA l n) i rest ws') (hu : USplit rest u z) (hz : (z == Str.ofString "") = true) :
    rest = root ∧ ws' = ws := by
  obtain ⟨k, q, cur, d, w0, wr, hr, hq, hd, hs, hf⟩ := due_shape hn h
  obtain ⟨g0, g⟩ := shape_free hs hf
  rw [hd, hs.eq] at hp
  have e : sl k ++ (rd d ++ w0 ++ fd 46 wr) = sl k ++ rd d ++ w0 ++ fd 46 wr := by simp
  rw [e] at hp
  obtain ⟨j, hj, hr2, hws, hus⟩ := peel_inv hs.free0 hs.free g0 g hs.ne hp
  obtain ⟨_, h2⟩ := hus u z hu
  cases j with
  | zero =>
    rw [hr2, hws, hs.root, hs.ws]
    simp [fd]
  | succ j =>
    exfalso
    have := (h2 j wr[j] rfl (List.getElem?_eq_getElem hj)).2
    rw [this] at hz
    have h3 : S (46 :: wr[j]) = S [] := by rw [← S_nil]; simpa using hz
    exact absurd (S_inj h3) (by simp)
def bareP (l : List Nat) (back : Str) : Str := (partsP l).lead ++ Txt.slice back (some (((partsP l).lead.length : Nat) + 2 : Int)) none
def nz (z : List Nat) : Bool := S z != Str.ofString ""
theorem nz_iff (z : List Nat) : nz z = true ↔ z ≠ [] := by
  unfold nz
  rw [S_nil]
  constructor
  · intro h e; rw [e] at h; simp at h
  · intro h
    have : S z ≠ S [] := fun e => h (S_inj e)
    simpa using this
theorem nz_not {z : List Nat} : nz z = false ↔ z = [] := by
  have := nz_iff z
  cases h : nz z <;> simp_all
def tr (z : List (List Nat)) : List Nat := if z.getLast? = some [] then [47] else []
def lay (R : List Nat) (z : List (List Nat)) : List Nat := R ++ fd 47 (z.filter nz) ++ tr z
theorem lay_end {R : List Nat} {c : Nat} (hR : R.getLast? = some c) (hc : c ≠ 47) {f : List (List Nat)} (h : ∀ w ∈ f, w ≠ [] ∧ 47 ∉ w) : (R ++ fd 47 f).getLast? ≠ some 47 := by
  intro he
  rcases List.eq_nil_or_concat f with rfl | ⟨g, w, rfl⟩
  · rw [fd_nil, List.append_nil, hR] at he
    exact hc (by simpa using he)
  · obtain ⟨h1, h2⟩ := h w (by simp)
    have e : R ++ fd 47 (g ++ [w]) = (R ++ fd 47 g ++ [47]) ++ w := by rw [fd_snoc]; simp
    rw [List.concat_eq_append] at he
    rw [e, List.getLast?_append] at he
    cases hw : w.getLast? with
    | none => exact h1 (List.getLast?_eq_none_iff.mp hw)
    | some d =>
      rw [hw] at he
      have : d = 47 := by simpa using he
      exact h2 (by rw [← this]; exact List.mem_of_getLast? hw)
theorem lay_step {R : List Nat} {c : Nat} (hR : R.getLast? = some c) (hc : c ≠ 47) {zs : List (List Nat)} (h : ∀ w ∈ zs, 47 ∉ w) {w : List Nat} (hw : 47 ∉ w) : joinStep (S (lay R zs)) (S w) = S (lay R (zs ++ [w])) := by
  unfold joinStep
  rw [S_slash, startswith_S, endswith_S, len_S]
  have hne : R ≠ [] := by rintro rfl; simp at hR
  have hpos := List.length_pos_iff.mpr hne
  rw [if_neg (by intro e; exact hw (List.mem_of_getElem? (of_decide_eq_true e))), if_neg (by unfold lay; simp only [List.length_append]; omega)]
  have e1 : tr (zs ++ [w]) = if w = [] then [47] else [] := by unfold tr; simp
  have e2 : (zs ++ [w]).filter nz = zs.filter nz ++ if w = [] then [] else [w] := by
    rw [List.filter_append]
    congr 1
    by_cases h0 : w = []
    · rw [if_pos h0, List.filter_cons, if_neg (by rw [nz_not.mpr h0]; simp)]; rfl
    · rw [if_neg h0, List.filter_cons, if_pos ((nz_iff w).mpr h0)]; rfl
  by_cases ht : zs.getLast? = some []
  · have e3 : tr zs = [47] := if_pos ht
    rw [if_pos (by unfold lay; rw [e3]; simp), S_append]
    congr 1
    unfold lay
    rw [e1, e2, e3]
    by_cases h0 : w = []
    · simp [h0]
    · simp only [if_neg h0, fd_snoc]; simp
  · have e3 : tr zs = [] := if_neg ht
    have e4 : lay R zs = R ++ fd 47 (zs.filter nz) := by unfold lay; rw [e3]; simp
    have e5 : (lay R zs).getLast? ≠ some 47 := by
      rw [e4]
      exact lay_end hR hc fun x hx => ⟨(nz_iff x).mp (List.mem_filter.mp hx).2, h x (List.mem_filter.mp hx).1⟩
    rw [if_neg (by intro e; exact e5 (of_decide_eq_true e)), S_append, S_append]
    congr 1
    rw [e4]
    unfold lay
    rw [e1, e2]
    by_cases h0 : w = []
    · simp [h0]
    · simp only [if_neg h0, fd_snoc]; simp
theorem lay_join {R : List Nat} {c : Nat} (hR : R.getLast? = some c) (hc : c ≠ 47) : ∀ (ws zs : List (List Nat)), (∀ w ∈ zs, 47 ∉ w) → (∀ w ∈ ws, 47 ∉ w) → joinP (S (lay R zs)) (ws.map S) = S (lay R (zs ++ ws))
  | [], zs, _, _ => by rw [List.append_nil]; rfl
  | w :: r, zs, h1, h2 => by
    have hw := h2 w (.head _)
    have e : joinP (S (lay R zs)) ((w :: r).map S) = joinP (joinStep (S (lay R zs)) (S w)) (r.map S) := rfl
    rw [e, lay_step hR hc h1 hw, lay_join hR hc r (zs ++ [w]) (by
      intro x hx
      rcases List.mem_append.mp hx with hx | hx
      · exact h1 x hx
      · rw [List.mem_singleton.mp hx]; exact hw) fun x hx => h2 x (.tail _ hx)]
    congr 2
    simp
theorem lay_laid (R : List Nat) (z : List (List Nat)) : laidP (S R) (z.map S) = S (lay R z) := by
  have e1 : Str.join (Str.ofString "/") ([S R] ++ (z.map S).filter (fun z => z != Str.ofString "")) = S (R ++ fd 47 (z.filter nz)) := by
    have : (z.map S).filter (fun z => z != Str.ofString "") = (z.filter nz).map S := by rw [List.filter_map]; rfl
    rw [this, S_slash, show [S R] ++ (z.filter nz).map S = (R :: z.filter nz).map S from rfl, join_S, gl_fd]
  unfold laidP
  rw [e1]
  have hc : (z.map S ≠ [] ∧ lastS (z.map S) = Str.ofString "") ↔ z.getLast? = some [] := by
    rcases List.eq_nil_or_concat z with rfl | ⟨g, w, rfl⟩
    · simp
    · rw [List.concat_eq_append, List.map_append, List.map_singleton, lastS_snoc, S_nil]
      simp only [List.getLast?_append, List.getLast?_singleton, Option.some_or, Option.some.injEq]
      exact ⟨fun h => S_inj h.2, fun h => ⟨by simp, by rw [h]⟩⟩
  by_cases ht : z.getLast? = some []
  · rw [if_pos (hc.mpr ht), S_slash, S_append]
    unfold lay tr
    rw [if_pos ht]
  · rw [if_neg fun h => ht (hc.mp h)]
    unfold lay tr
    rw [if_neg ht, List.append_nil]
theorem words_join2 {l : List Nat} {n : Nat} {root : Str} {ws : List Str} (hn : (partsP l).runs.length ≤ n) (h : WordsP (partsP l).lead (dueA l n) root ws) : joinP root ws = laidP root ws := by
  obtain ⟨k, q, cur, d, w0, wr, hr, hq, hd, hs, hf⟩ := due_shape hn h
  obtain ⟨g0, g⟩ := shape_free hs hf
  rw [hs.root, hs.ws]
  cases wr with
  | nil =>
    rw [lay_laid]
    show S (sl k ++ rd d ++ w0) = S (lay (sl k ++ rd d ++ w0) [])
    simp [lay, tr, fd]
  | cons w r =>
    have hne := hs.ne (by simp)
    obtain ⟨c, hc⟩ : ∃ c, w0.getLast? = some c := by
      cases hh : w0.getLast? with
      | none => exact absurd (List.getLast?_eq_none_iff.mp hh) hne
      | some c => exact ⟨c, rfl⟩
    have hR : (sl k ++ rd d ++ w0).getLast? = some c := by rw [List.getLast?_append, hc]; rfl
    have hc2 : c ≠ 47 := fun e => g0 (e ▸ List.mem_of_getLast? hc)
    have := lay_join hR hc2 (w :: r) [] (by simp) g
    rw [lay_laid, List.nil_append] at *
    rw [← this]
    congr 1
    simp [lay, tr, fd]
theorem fs_fd : ∀ (F : List (List Nat)) (a t : List Nat), (t = [] ∨ t = [47]) → 47 ∉ a → (∀ w ∈ F, 47 ∉ w) → fs (a ++ fd 47 F ++ t) = (a :: F).filter pOk
  | [], a, t, ht, ha, _ => by
    rw [fd_nil, List.append_nil]
    rcases ht with rfl | rfl
    · rw [List.append_nil]; exact fs_one ha
    · rw [fs_cut ha]
      have : fs [] = [] := by unfold fs; simp [Mine.spl, pOk_nil]
      rw [this, List.append_nil]
  | w :: F, a, t, ht, ha, hF => by
    have e : a ++ fd 47 (w :: F) ++ t = a ++ 47 :: (w ++ fd 47 F ++ t) := by rw [fd_cons]; simp
    rw [e, fs_cut ha, fs_fd F w t ht (hF w (.head _)) fun x hx => hF x (.tail _ hx), ← List.filter_append]
    rfl
theorem pOk_nz (z : List (List Nat)) : (z.filter nz).filter pOk = z.filter pOk := by
  rw [List.filter_filter]
  congr 1
  funext a
  unfold pOk nz
  cases (S a != Str.ofString "") <;> simp
theorem fd_filter_le (z : List (List Nat)) : (fd 47 (z.filter nz)).length ≤ (fd 46 z).length := by
  induction z with
  | nil => exact Nat.le_refl _
  | cons a r ih =>
    rw [List.filter_cons]
    split
    · rw [fd_cons, fd_cons]; simp only [List.length_append, List.length_cons]; omega
    · rw [fd_cons]; simp only [List.length_append, List.length_cons]; omega
theorem fld_gl (q : QS) (cur : List Nat) : fld q ++ cur = gl 46 (q.map (·.1) ++ [cur]) := by
  induction q with
  | nil => rfl
  | cons a r ih =>
    have e : fld (a :: r) = (a.1 ++ [46]) ++ fld r := rfl
    rw [e, List.append_assoc, ih, List.map_cons, List.cons_append]
    cases hr : r.map (·.1) ++ [cur] with
    | nil => simp at hr
    | cons x y => simp [gl]
theorem no_dot {l : List Nat} (hoc : (Builtin.Str.occurrences (S l) (Str.ofString ".") 0 (S l).length 1).isEmpty = true) : 46 ∉ l := by
  intro hm
  have h := StrLaws.found_one (S l) 46
  rw [show (⟨#[46]⟩ : Str) = Str.ofString "." by decide, hoc, show (S l).cps.toList = l from tl_S l] at h
  simp [hm] at h
theorem bare_ok {l : List Nat} {root : Str} {ws : List Str} (hl : l.length ≤ 36) (hoc : (Builtin.Str.occurrences (S l) (Str.ofString ".") 0 (S l).length 1).isEmpty = true) (hn : ((partsP l).names.getD (Int.toNat 0) Str.empty == Str.ofString "") = false)
    (h : WordsP (partsP l).lead (dueA l ((partsP l).runs.length + 3 - 1)) root ws) :
    (bareP l (laidP root ws)).length ≤ 1000 ∧ comps (S l) = comps (bareP l (laidP root ws)) ∧ Txt.startswith (S l) (Str.ofString "/") = Txt.startswith (bareP l (laidP root ws)) (Str.ofString "/") := by
  have hdot := no_dot hoc
  have hle := runs_le l
  have hlen := due_len l ((partsP l).runs.length + 3 - 1)
  obtain ⟨k, q, cur, d, w0, wr, hr, hq, hd, hs, hf⟩ := due_shape (by omega) h
  have e : (partsP l).runs.length = q.length := by rw [hr.runs]; simp
  rw [hd, len_S] at hlen
  rw [e] at hs hf hlen hle
  have e2 : q.length + 3 - 1 - q.length = 2 := by omega
  rw [e2] at hs hf hlen
  obtain ⟨n0, nr, hnm⟩ : ∃ n0 nr, q.map (·.1) ++ [cur] = n0 :: nr := by
    cases hh : q.map (·.1) ++ [cur] with
    | nil => simp at hh
    | cons a b => exact ⟨a, b, rfl⟩
  have hn0 : n0 ≠ [] := by
    rintro rfl
    rw [hr.names, hnm, S_nil] at hn
    simp at hn
  have hfree46 : ∀ p ∈ n0 :: nr, 46 ∉ p := by
    intro p hp hm
    rw [← hnm] at hp
    apply hdot
    rw [hr.path]
    rcases List.mem_append.mp hp with hp | hp
    · obtain ⟨z, hz, rfl⟩ := List.mem_map.mp hp
      exact List.mem_append_left _ (List.mem_append_right _ (List.mem_flatMap.mpr ⟨z, hz, List.mem_append_left _ hm⟩))
    · rw [List.mem_singleton.mp hp] at hm
      exact List.mem_append_right _ hm
  have hfree47 : ∀ p ∈ n0 :: nr, 47 ∉ p := by
    intro p hp
    rw [← hnm] at hp
    rcases List.mem_append.mp hp with hp | hp
    · obtain ⟨z, hz, rfl⟩ := List.mem_map.mp hp
      exact (hr.good z hz).2.1
    · rw [List.mem_singleton.mp hp]; exact hr.goodc
  have eT : rd 2 ++ fld q ++ cur = 46 :: 46 :: gl 46 (n0 :: nr) := by rw [List.append_assoc, fld_gl, hnm]; rfl
  obtain ⟨c, r0, hcr⟩ : ∃ c r0, n0 = c :: r0 := by
    cases n0 with
    | nil => exact absurd rfl hn0
    | cons c r0 => exact ⟨c, r0, rfl⟩
  have hc46 : c ≠ 46 := fun e => hfree46 n0 (.head _) (by rw [hcr, e]; exact .head _)
  have hc47 : c ≠ 47 := fun e => hfree47 n0 (.head _) (by rw [hcr, e]; exact .head _)
  have hd2 : d = 2 := by
    have hp := hs.pre
    have hst := hs.stop
    rw [eT, gl_fd, hcr] at hp hst
    match d, hp, hst with
    | 0, _, hst => simp at hst
    | 1, _, hst => simp at hst
    | 2, _, _ => rfl
    | d + 3, hp, _ =>
      have := hp 2 (by omega)
      simp at this
      exact absurd this hc46
  subst hd2
  have hsp := hs.spl
  rw [eT] at hsp
  have e3 : (46 :: 46 :: gl 46 (n0 :: nr)).drop 2 = gl 46 (n0 :: nr) := rfl
  rw [e3, spl_gl (by simp) hfree46] at hsp
  obtain ⟨rfl, rfl⟩ := List.cons.inj hsp
  have hbare : bareP l (laidP root ws) = S (sl k ++ (w0 ++ fd 47 (wr.filter nz) ++ tr wr)) := by
    unfold bareP
    rw [hr.lead, hs.root, hs.ws, lay_laid, len_S]
    have e4 : (((sl k).length : Nat) : Int) + 2 = (((sl k).length + 2 : Nat) : Int) := by omega
    rw [e4, slice_sn, S_append]
    congr 2
    unfold lay
    have e5 : sl k ++ rd 2 ++ w0 ++ fd 47 (wr.filter nz) ++ tr wr = (sl k ++ rd 2) ++ (w0 ++ fd 47 (wr.filter nz) ++ tr wr) := by simp
    have e6 : (sl k).length + 2 = (sl k ++ rd 2).length := by simp [rd]
    rw [e5, e6, List.drop_left]
  have htr : tr wr = [] ∨ tr wr = [47] := by unfold tr; split <;> simp
  have hF : ∀ w ∈ wr.filter nz, 47 ∉ w := fun w hw => hfree47 w (.tail _ (List.mem_filter.mp hw).1)
  rw [hbare]
  refine ⟨?_, ?_, ?_⟩
  · rw [len_S]
    have h1 := fd_filter_le wr
    have h2 : (tr wr).length ≤ 1 := by rcases htr with h | h <;> simp [h]
    rw [eT, gl_fd] at hlen
    simp only [List.length_append, List.length_cons] at hlen ⊢
    omega
  · rw [comps_S, comps_S, fs_sl, fs_fd _ _ _ htr (hfree47 w0 (.head _)) hF]
    congr 1
    conv => lhs; rw [hr.path, List.append_assoc, fs_sl, fs_flt hr.good hr.goodc, hnm]
    rw [List.filter_cons, List.filter_cons, pOk_nz]
  · rw [S_slash, startswith_S, startswith_S]
    have h1 : (l[0]? = some 47) ↔ k ≠ 0 := by
      conv => lhs; rw [hr.path, List.append_assoc]
      exact head_sl (flt_head hr.good hr.goodc)
    have h2 : ((sl k ++ (w0 ++ fd 47 (wr.filter nz) ++ tr wr))[0]? = some 47) ↔ k ≠ 0 := by
      apply head_sl
      rw [hcr]
      intro e
      exact hc47 (by simpa using e)
    rw [Bool.eq_iff_iff, decide_eq_true_eq, decide_eq_true_eq, h1, h2]
theorem words_join {l : List Nat} {n : Nat} {root : Str} {ws : List Str} (hne : l ≠ []) (hn : (partsP l).runs.length ≤ n) (h : WordsP (partsP l).lead (dueA l n) root ws) : joinP root ws = laidP root ws := words_join2 hn h
theorem common_same {x y : Str} (h1 : comps y = comps x) (h2 : Txt.startswith y (Str.ofString "/") = Txt.startswith x (Str.ofString "/")) : commonP x = commonP y := by
  unfold commonP; rw [h1, h2]
end Mine

theorem Mine.quietZ0 : True := by
  w_top off
  trivial
namespace Mine
theorem flat_one (ps : List (List Nat)) : Str.join (Str.ofString "") (ps.map S) = S ps.flatten := by
  rw [S_nil]
  have key : ∀ ps : List (List Nat), Str.join (S []) (ps.map S) = S ps.flatten := by
    intro ps
    induction ps with
    | nil => rfl
    | cons a r ih =>
      cases r with
      | nil => simp [Str.join]
      | cons b r =>
        show S a ++ S [] ++ Str.join (S []) (S b :: r.map S) = _
        rw [show (S b :: r.map S) = (b :: r).map S from rfl, ih, S_append, S_append]
        simp
  exact key ps
theorem len2_t {n : Nat} (h : n = 2) : (((n : Nat) : Int) == 2) = true := by subst h; rfl
theorem len2_f {n : Nat} (h : ¬ n = 2) : ¬ (((n : Nat) : Int) == 2) = true := by rw [beq_iff_eq]; omega
theorem pair_ok {x y : Str} (hx : PyData.strOk x = true) (hy : PyData.strOk y = true) : ∀ z ∈ [x, y], PyData.strOk z = true := by
  intro z hz
  rcases List.mem_cons.mp hz with rfl | hz
  · exact hx
  · rw [List.mem_singleton.mp hz]; exact hy
theorem ok_nil : PyData.strOk (Str.ofString "") = true := by decide +kernel
theorem ok_dot : PyData.strOk (Str.ofString ".") = true := by decide +kernel
theorem not_ne {a b : List Str} {v : Bool} (h : v = true ↔ a ≠ b) (e : a = b) : v = false := by
  cases v
  · rfl
  · exact absurd e (h.mp rfl)
theorem any_t {z : Str} (h : ([Str.ofString "", Str.ofString "."].any fun x => x == z) = true) : (z != Str.ofString "" && z != Str.ofString ".") = false := by
  simp only [List.any_cons, List.any_nil, Bool.or_false, Bool.or_eq_true, beq_iff_eq] at h
  rcases h with rfl | rfl <;> decide
theorem any_f {z : Str} (h : ([Str.ofString "", Str.ofString "."].any fun x => x == z) = false) : (z != Str.ofString "" && z != Str.ofString ".") = true := by
  simp only [List.any_cons, List.any_nil, Bool.or_false, Bool.or_eq_false_iff, beq_eq_false_iff_ne, ne_eq] at h
  simp only [Bool.and_eq_true, bne_iff_ne, ne_eq]
  exact ⟨fun e => h.1 e.symm, fun e => h.2 e.symm⟩
structure LS where
  told : Str
  t1 : Tok
  back : Str
  t2 : Tok
theorem small3 {n : Nat} (h : n ≤ 40) : Builtin.Range.small 0 ((n : Int) + 2 + 1) 1 = true := small_one (by omega) (by omega) (by omega) (by omega)
theorem rng3 {n i : Nat} (h : i < ((n : Int) + 2 + 1 - 0).toNat) : i < n + 3 := by omega
theorem rng3n {n : Nat} : ((n : Int) + 2 + 1 - 0).toNat = n + 3 := by omega
theorem sum_100 {a i n : Nat} (h1 : a ≤ 36) (h2 : i < n + 3) (h3 : n ≤ 36) : a + i ≤ 90 := by omega
theorem le_join {r w : Nat} (h1 : r ≤ 100) (h2 : w ≤ 100) : r + w * (100 + 1) ≤ 20000 := by have := Nat.mul_le_mul_right 101 h2; omega
theorem no_lt {n i : Nat} (h : ¬ n ≤ i) (h2 : n < i + 1) : False := by omega
theorem le_40a {a n : Nat} (h : a = n + 1) (h3 : n ≤ 36) : a ≤ 40 := by omega
theorem le_60 {i n : Nat} (h2 : i < n + 3) (h3 : n ≤ 36) : ((i : Nat) : Int) ≤ 60 := by omega
theorem ge_t {n i : Nat} (h : n ≤ i) : decide ((n : Int) ≤ (i : Int)) = true := decide_eq_true (by omega)
theorem ge_f {n i : Nat} (h : ¬ n ≤ i) : ¬ decide ((n : Int) ≤ (i : Int)) = true := by rw [decide_eq_true_eq]; omega
theorem two_of {l : List Str} (h : l.length = 2) : l = [l.getD 0 Str.empty, l.getD 1 Str.empty] := by
  match l, h with
  | [a, b], _ => rfl
theorem getD_ok {l : List Str} (h : ∀ y ∈ l, PyData.strOk y = true) (i : Nat) : PyData.strOk (l.getD i Str.empty) = true := by
  rw [List.getD_eq_getElem?_getD]
  cases h1 : l[i]? with
  | none => decide +kernel
  | some y => exact h y (List.mem_of_getElem? h1)
def pathL (ds : List Int) : List Nat := (ds.map fun k => menuL (k.fmod 8).toNat).flatten
theorem path_join (ds : List Int) : Str.join (Str.ofString "") (ds.map menuS) = S (pathL ds) := by
  have e : ds.map menuS = (ds.map fun k => menuL (k.fmod 8).toNat).map S := by rw [List.map_map]; rfl
  rw [e, flat_one]; rfl
theorem menu_end {k : Int} {i : Nat} {txt : Str} {R : Value → Led → Prop} {news : Led} (h : k.fmod 8 = i) (hi : i < 8) (e : S (menuL i) = txt) (hp : ∀ t', R (.str (menuS k) t') news) (t : Tok) : R (.str txt t) news := by
  rw [← e, ← menu_at h hi]; exact hp t
def okC (c : Nat) : Prop := c = 47 ∨ c = 97 ∨ c = 98 ∨ c = 46
theorem menu_ok (i : Nat) : (∀ c ∈ menuL i, okC c) ∧ (menuL i).length ≤ 3 := by
  rcases Nat.lt_or_ge i 8 with h | h
  · have key : ∀ j : Fin 8, (∀ c ∈ menuL j, c = 47 ∨ c = 97 ∨ c = 98 ∨ c = 46) ∧ (menuL j).length ≤ 3 := by decide
    exact key ⟨i, h⟩
  · have : menuL i = [] := by unfold menuL; rw [List.getD_eq_getElem?_getD, List.getElem?_eq_none (by simpa using h)]; rfl
    rw [this]; exact ⟨by simp, by simp⟩
theorem fmod8 (k : Int) : 0 ≤ k.fmod 8 ∧ k.fmod 8 < 8 := ⟨Int.fmod_nonneg_of_pos _ (by decide), Int.fmod_lt_of_pos _ (by decide)⟩
theorem menu_pos (k : Int) : menuL (k.fmod 8).toNat ≠ [] := by
  have h := fmod8 k
  have key : ∀ j : Fin 8, menuL j ≠ [] := by decide
  exact key ⟨(k.fmod 8).toNat, by omega⟩
theorem path_ok (ds : List Int) : (∀ c ∈ pathL ds, okC c) ∧ (pathL ds).length ≤ 3 * ds.length ∧ (ds ≠ [] → pathL ds ≠ []) := by
  induction ds with
  | nil => exact ⟨by simp [pathL], by simp [pathL], fun h => absurd rfl h⟩
  | cons k r ih =>
    have e : pathL (k :: r) = menuL (k.fmod 8).toNat ++ pathL r := by simp [pathL]
    obtain ⟨h1, h2⟩ := menu_ok (k.fmod 8).toNat
    refine ⟨?_, ?_, fun _ => ?_⟩
    · rw [e]; intro c hc
      rcases List.mem_append.mp hc with hc | hc
      · exact h1 c hc
      · exact ih.1 c hc
    · rw [e, List.length_append, List.length_cons]; omega
    · rw [e]; intro h3; exact menu_pos k (List.append_eq_nil_iff.mp h3).1
section
variable {M : Model} {A : Around} {E : Value → Shared → Prop} {s : Shared} {H0 : Heap} {L : Addr} {m0 : Str → Option Value}
def DrawnJ (H0 : Heap) (L : Addr) (m0 : Str → Option Value) (s : Shared) (f : Flow) (s' : Shared) : Prop :=
  f = .next ∧ ∃ D vs ds n h tk, s' = { s with heap := h, toks := tk } ∧ Fr H0 L h (fun y => if y = Str.ofString "drawn" then some (.ref D) else m0 y) ∧ News H0 L h [(D, PySem.W.listOf vs.toArray n)] ∧ IntsAre vs ds ∧ 3 ≤ ds.length ∧ ds.length ≤ 12
theorem DrawnJ.intro {D : Addr} {vs : List Value} {ds : List Int} {n tk : Nat} {h : Heap} {m : Str → Option Value} {news : Led} (F : Fr H0 L h m) (N : News H0 L h news) (hm : (D, PySem.W.listOf vs.toArray n) ∈ news) (hi : IntsAre vs ds) (h3 : 3 ≤ ds.length) (h12 : ds.length ≤ 12)
    (hD : m (Str.ofString "drawn") = some (.ref D)) (hr : ∀ y, y ≠ Str.ofString "drawn" → m y = m0 y) : DrawnJ H0 L m0 s .next { s with heap := h, toks := tk } := by
  refine ⟨rfl, D, vs, ds, n, h, tk, rfl, ?_, fun p hp => by rw [List.mem_singleton.mp hp]; exact N _ hm, hi, h3, h12⟩
  have e : (fun y => if y = Str.ofString "drawn" then some (Value.ref D) else m0 y) = m := by
    funext y
    by_cases hy : y = Str.ofString "drawn"
    · rw [if_pos hy, hy]; exact hD.symm
    · rw [if_neg hy]; exact (hr y hy).symm
  rw [e]; exact F
theorem drawn_join {t : Sem Flow} {Q : Flow → Shared → Prop} (F : Fr H0 L s.heap m0) (h : wpAny M A t (DrawnJ H0 L m0 s) E s)
    (k : ∀ D vs ds n h tk, Fr H0 L h (fun y => if y = Str.ofString "drawn" then some (.ref D) else m0 y) → News H0 L h [(D, PySem.W.listOf vs.toArray n)] → IntsAre vs ds → 3 ≤ ds.length → ds.length ≤ 12 → Q .next { s with heap := h, toks := tk }) : wpAny M A t Q E s :=
  wpAny_mono h (fun f s' hp => by
    obtain ⟨rfl, D, vs, ds, n, h, tk, rfl, F', N', hi, h3, h12⟩ := hp
    exact k D vs ds n h tk F' N' hi h3 h12) fun _ _ x => x
def KeepJ (H0 : Heap) (L : Addr) (m : Str → Option Value) (news : Led) (s : Shared) (f : Flow) (s' : Shared) : Prop :=
  f = .next ∧ ∃ h tk, s' = { s with heap := h, toks := tk } ∧ Fr H0 L h m ∧ News H0 L h news
theorem KeepJ.intro {m : Str → Option Value} {news nx : Led} {h : Heap} {tk : Nat} (F : Fr H0 L h m) (N : News H0 L h nx) (hs : ∀ p ∈ news, p ∈ nx) : KeepJ H0 L m news s .next { s with heap := h, toks := tk } :=
  ⟨rfl, h, tk, rfl, F, fun p hp => N p (hs p hp)⟩
theorem keep_join {t : Sem Flow} {m : Str → Option Value} {Q : Flow → Shared → Prop} (news : Led) (F : Fr H0 L s.heap m) (h : wpAny M A t (KeepJ H0 L m news s) E s)
    (k : ∀ h tk, Fr H0 L h m → News H0 L h news → Q .next { s with heap := h, toks := tk }) : wpAny M A t Q E s :=
  wpAny_mono h (fun f s' hp => by
    obtain ⟨rfl, h, tk, rfl, F', N'⟩ := hp
    exact k h tk F' N') fun _ _ x => x
end
end Mine

theorem Mine.quietZ1 : True := by
  w_top off
  trivial
set_option maxHeartbeats 4000000 in
theorem PySem.Challenge.cw_ij0121_01_holds : PySem.Challenge.rw_ij0121_01.Holds := by
  refine ⟨Mine.said, ?_⟩
  refine holds_open (q := Mine.viewQ) (loose := []) (Xt := fun s => xlAt Mine.viewQ [] s && recOk (RowW.records (OpenRow.toRowW PySem.Challenge.rw_ij0121_01.row)) s) (XP := XL Mine.viewQ []) (Yf := Hook.obs (kHook Mine.heapK Mine.heapKs Mine.heapKs_eq)) (Ya := Hook.val (kHook Mine.heapK Mine.heapKs Mine.heapKs_eq)) (YP := Hook.says (kHook Mine.heapK Mine.heapKs Mine.heapKs_eq)) (N := 3188) Mine.left (Hook.of (kHook Mine.heapK Mine.heapKs Mine.heapKs_eq)) (Hook.keeps (kHook Mine.heapK Mine.heapKs Mine.heapKs_eq)) (fun s e => xl_of s (Bool.and_eq_true_iff.mp e).1) XL.keeps (by rfl) (by rfl) (by rfl) (fun s e => recFacts_of (Bool.and_eq_true_iff.mp e).2) (by rfl) Mine.saidRow (by decide +kernel) ⟨rfl, rfl, rfl, rfl, rfl, by decide +kernel⟩ (by w_witness2) ?hc
  k_go0; (all_goals try k_fold)
  repeat' ((fail_if_success (with_reducible show wpAny _ _ (exec (Stmt.If _ _ _ _) _) _ _ _)); first | (k_unfold; (try dsimp only)) | ((with_reducible change (_ : Flow → Shared → Prop) _ _); k_unfold; (try dsimp only)) | (k_end; wrow_close) | ((with_reducible show wpAny _ _ (exec _ _) _ _ _); k_fold; walk1) | walk1 | (dsimp only; walk1) | (leave1; walk_say "STEP leave1"; try dsimp only) | fail "no step")
  (rename Fr _ _ _ _ => F0)
  refine Mine.drawn_join F0 ?_ ?_
  · (repeat' (first | (k_unfold; (try dsimp only)) | ((with_reducible change (_ : Flow → Shared → Prop) _ _); k_unfold; (try dsimp only)) | (k_end; wrow_close) | ((with_reducible show wpAny _ _ (exec _ _) _ _ _); k_fold; walk1) | walk1 | (dsimp only; walk1) | (leave1; walk_say "STEP leave1"; try dsimp only) | fail "no step"))
    · refine Mine.DrawnJ.intro (by k_asm) (by k_asm) (.head _) (by assumption) ?_ ?_ rfl (fun y hy => by simp only [hy, if_false])
      · rw [List.length_append]; simp
      · rw [List.length_append]; simp only [List.length_cons, List.length_nil]; omega
    · refine Mine.DrawnJ.intro (by k_asm) (by k_asm) (.head _) (by assumption) ?_ ?_ rfl (fun y hy => by simp only [hy, if_false])
      · omega
      · rw [List.length_map, List.length_take]; omega
  intro D vs ds n h tk F1 N1 hi h3 h12
  dsimp only
  repeat' ((fail_if_success (with_reducible show wpAny _ _ (eval (PySem.Expr.ListComp _ _ _ _) _) _ _ _)); first | (k_unfold; (try dsimp only)) | ((with_reducible change (_ : Flow → Shared → Prop) _ _); k_unfold; (try dsimp only)) | (k_end; wrow_close) | ((with_reducible show wpAny _ _ (exec _ _) _ _ _); k_fold; walk1) | walk1 | (dsimp only; walk1) | (leave1; walk_say "STEP leave1"; try dsimp only) | fail "no step")
  (refine LCg.ListComp_U (by k_asm) (by with_unfolding_all rfl) (by decide) (by rfl) (by decide) (by rfl) ?_)
  repeat' ((fail_if_success (with_reducible show LCg.CompSrc _ _ _ _ _ _ _ _ _ _ _ _ _ _)); first | (k_unfold; (try dsimp only)) | ((with_reducible change (_ : Flow → Shared → Prop) _ _); k_unfold; (try dsimp only)) | (k_end; wrow_close) | ((with_reducible show wpAny _ _ (exec _ _) _ _ _); k_fold; walk1) | walk1 | (dsimp only; walk1) | (leave1; walk_say "STEP leave1"; try dsimp only) | fail "no step")
  refine Mine.src_led rfl (by k_asm) (by k_asm) (.head _) (by rw [hi.length]; omega) (fun g9 => Mine.rest_ints hi Mine.menuS ?_ ?_)
  · intro k t I oI C oC D m₂ ys h tk E' R hz hC hx2 F1 N1 off ne hp
    (repeat' (first | (k_unfold; (try dsimp only)) | ((with_reducible change (_ : Flow → Shared → Prop) _ _); k_unfold; (try dsimp only)) | (k_end; wrow_close) | ((with_reducible show wpAny _ _ (exec _ _) _ _ _); k_fold; walk1) | walk1 | (dsimp only; walk1) | (leave1; walk_say "STEP leave1"; try dsimp only) | fail "no step"))
    all_goals
      refine LCg.CompEnd.intro (by k_asm) (by k_asm) _ (fun p hp => .tail _ hp) (by assumption) (.inr ⟨_, .head _, rfl, _, rfl⟩) ?_
      first
        | exact Mine.menu_end (i := 0) (by omega) (by decide) (by decide) hp _
        | exact Mine.menu_end (i := 1) (by omega) (by decide) (by decide) hp _
        | exact Mine.menu_end (i := 2) (by omega) (by decide) (by decide) hp _
        | exact Mine.menu_end (i := 3) (by omega) (by decide) (by decide) hp _
        | exact Mine.menu_end (i := 4) (by omega) (by decide) (by decide) hp _
        | exact Mine.menu_end (i := 5) (by omega) (by decide) (by decide) hp _
        | exact Mine.menu_end (i := 6) (by omega) (by decide) (by decide) hp _
        | exact Mine.menu_end (i := 7) (by omega) (by decide) (by decide) hp _
  · intro ys hys D2 h2 tk2 F2 N2 off2
    have hb1 : ∀ y ∈ ds.map Mine.menuS, y.length ≤ 5000 := by
      intro y hy
      obtain ⟨k, _, rfl⟩ := List.mem_map.mp hy
      unfold Mine.menuS
      rw [Mine.len_S]
      have := (Mine.menu_ok (k.fmod 8).toNat).2
      omega
    have hb2 : (ds.map Mine.menuS).length ≤ 3000 := by rw [List.length_map]; omega
    repeat' ((fail_if_success (with_reducible show wpAny _ _ (call (Value.builtin "str.join") _) _ _ _)); first | (k_unfold; (try dsimp only)) | ((with_reducible change (_ : Flow → Shared → Prop) _ _); k_unfold; (try dsimp only)) | (k_end; wrow_close) | ((with_reducible show wpAny _ _ (exec _ _) _ _ _); k_fold; walk1) | walk1 | (dsimp only; walk1) | (leave1; walk_say "STEP leave1"; try dsimp only) | fail "no step")
    refine' Mine.joinV ?l hys ?x hb1 hb2 ?_
    case l => exact ⟨_, News.get (by k_asm) (.head _), rfl, _, rfl⟩
    case x => decide
    intro t3 k3 z3 ez3 lz3
    rw [Mine.path_join] at ez3
    obtain ⟨hch, hle, hne⟩ := Mine.path_ok ds
    have hne2 := hne (by intro h; rw [h] at h3; simp at h3)
    have hle2 : (Mine.pathL ds).length ≤ 36 := by omega
    generalize Mine.pathL ds = l at ez3 hch hle hne hne2 hle2
    subst ez3
    clear lz3 hb1 hb2 hys hle hne hi h3 h12
    have hok : ∀ c ∈ Mine.tl (Mine.S l), c < 128 := by
      rw [Mine.tl_S]; intro c hc
      rcases hch c hc with h | h | h | h <;> omega
    have hls : (Mine.S l).length ≤ 36 := by rw [Mine.len_S]; exact hle2
    repeat' ((fail_if_success (with_reducible show wpAny _ _ (call (Value.ref _) _) _ _ _)); first | (k_unfold; (try dsimp only)) | ((with_reducible change (_ : Flow → Shared → Prop) _ _); k_unfold; (try dsimp only)) | (k_end; wrow_close) | ((with_reducible show wpAny _ _ (exec _ _) _ _ _); k_fold; walk1) | walk1 | (dsimp only; walk1) | (leave1; walk_say "STEP leave1"; try dsimp only) | fail "no step")
    refine' Mine.Ct.use (Mine.ct_parts _ _ (by omega) hok) ?k1 ?k2 ?k3 ?k4 ?k5 ?kK ?kp ?kd ?ku ?_
    ((case k1 => k_asm); (case k2 => k_asm); (case k3 => k_asm); (case k4 => k_asm); (case k5 => k_asm); (case kK => first | exact rfl | assumption); (case kd => ktr_room); (case ku => ktr_units))
    case kp => trivial
    rintro r tl h9 tk9 F9 N9 ⟨a, b, d, n0, n1, n2, t0, v1, v2, ps, rfl, rfl, hps, hv1, hv2, ix, hix, hinv⟩
    rw [show (Mine.S l).cps.toList = l from Mine.tl_S l] at hps
    dsimp only [List.cons_append, List.nil_append] at N9
    repeat' ((fail_if_success (with_reducible show wpAny _ _ (eval (PySem.Expr.ListComp _ _ _ _) _) _ _ _)); first | (k_unfold; (try dsimp only)) | ((with_reducible change (_ : Flow → Shared → Prop) _ _); k_unfold; (try dsimp only)) | (k_end; wrow_close) | ((with_reducible show wpAny _ _ (exec _ _) _ _ _); k_fold; walk1) | walk1 | (dsimp only; walk1) | (leave1; walk_say "STEP leave1"; try dsimp only) | fail "no step")
    (refine Mine.ListComp_S (by k_asm) (by with_unfolding_all rfl) (by decide) (by rfl) (by decide) (by rfl) ?_)
    repeat' ((fail_if_success (with_reducible show Mine.SSrc _ _ _ _ _ _ _ _ _ _ _ _ _ _)); first | (k_unfold; (try dsimp only)) | ((with_reducible change (_ : Flow → Shared → Prop) _ _); k_unfold; (try dsimp only)) | (k_end; wrow_close) | ((with_reducible show wpAny _ _ (exec _ _) _ _ _); k_fold; walk1) | walk1 | (dsimp only; walk1) | (leave1; walk_say "STEP leave1"; try dsimp only) | fail "no step")
    refine ⟨_, _, _, rfl, rfl, (by k_asm), (by k_asm), ?pa, ?pb, ?pc⟩
    case pa =>
      rw [← Array.all_toList, show (Mine.S l).cps.toList = l from Mine.tl_S l, List.all_eq_true]
      intro c hc
      exact decide_eq_true (hok c (by rw [Mine.tl_S]; exact hc))
    case pb => exact Nat.le_trans hls (by decide)
    case pc =>
    rintro s₂ ⟨g9, rfl⟩
    refine Mine.rest_ords l ?_ ?_
    · intro c u I oI C oC D m₂ ys h tk E' R hz hC hx2 F1 N1 off ne hp
      repeat' ((fail_if_success (with_reducible show wpAny _ _ (call (Value.builtin "ord") _) _ _ _)); first | (k_unfold; (try dsimp only)) | ((with_reducible change (_ : Flow → Shared → Prop) _ _); k_unfold; (try dsimp only)) | (k_end; wrow_close) | ((with_reducible show wpAny _ _ (exec _ _) _ _ _); k_fold; walk1) | walk1 | (dsimp only; walk1) | (leave1; walk_say "STEP leave1"; try dsimp only) | fail "no step")
      refine P.ord_of_char ?_
      (repeat' (first | (k_unfold; (try dsimp only)) | ((with_reducible change (_ : Flow → Shared → Prop) _ _); k_unfold; (try dsimp only)) | (k_end; wrow_close) | ((with_reducible show wpAny _ _ (exec _ _) _ _ _); k_fold; walk1) | walk1 | (dsimp only; walk1) | (leave1; walk_say "STEP leave1"; try dsimp only) | fail "no step"))
      refine LCg.CompEnd.intro (by k_asm) (by k_asm) _ (fun p hp => hp) (by assumption) trivial ?_
      exact hp _
    · intro ysb hysb D5 h5 tk5 F5 N5 off5
      repeat' ((fail_if_success (with_reducible show wpAny _ _ (call (Value.type "bytes") _) _ _ _)); first | (k_unfold; (try dsimp only)) | ((with_reducible change (_ : Flow → Shared → Prop) _ _); k_unfold; (try dsimp only)) | (k_end; wrow_close) | ((with_reducible show wpAny _ _ (exec _ _) _ _ _); k_fold; walk1) | walk1 | (dsimp only; walk1) | (leave1; walk_say "STEP leave1"; try dsimp only) | fail "no step")
      refine KBa.make_K (by k_asm) (by k_asm) rfl ⟨_, News.get (by k_asm) (.head _), rfl, _, rfl⟩ hysb ?br ?bn ?_
      case br =>
        intro n hn
        obtain ⟨c, hc, rfl⟩ := List.mem_map.mp hn
        have := hok c (by rw [Mine.tl_S]; exact hc)
        omega
      case bn => rw [List.length_map]; omega
      intro h6 t6 k6 F6 N6 hin6
      have hbs : (byteArr (l.map fun c : Nat => (c : Int))).size ≤ 1000 := by
        rw [← KBw.ints_length, KBa.ints_make hin6, List.length_map]; omega
      generalize byteArr (l.map fun c : Nat => (c : Int)) = bpath at hbs ⊢
      repeat' ((fail_if_success (with_reducible show wpAny _ _ (call (Value.ref _) _) _ _ _)); first | (k_unfold; (try dsimp only)) | ((with_reducible change (_ : Flow → Shared → Prop) _ _); k_unfold; (try dsimp only)) | (k_end; wrow_close) | ((with_reducible show wpAny _ _ (exec _ _) _ _ _); k_fold; walk1) | walk1 | (dsimp only; walk1) | (leave1; walk_say "STEP leave1"; try dsimp only) | fail "no step")
      refine' Mine.Ct.use (Mine.ct_splitB _ _ hbs) ?k1 ?k2 ?k3 ?k4 ?k5 ?kK ?kp ?kd ?ku ?_
      ((case k1 => k_asm); (case k2 => k_asm); (case k3 => k_asm); (case k4 => k_asm); (case k5 => k_asm); (case kK => first | exact rfl | assumption); (case kd => ktr_room); (case ku => ktr_units))
      case kp => trivial
      rintro r tl h9 tk9 F9 N9 ⟨a5, n5, b1, b2, tb1, tb2, rfl, rfl⟩
      dsimp only [List.cons_append, List.nil_append] at N9
      repeat' ((fail_if_success (with_reducible show wpAny _ _ (call (Value.ref _) _) _ _ _)); first | (k_unfold; (try dsimp only)) | ((with_reducible change (_ : Flow → Shared → Prop) _ _); k_unfold; (try dsimp only)) | (k_end; wrow_close) | ((with_reducible show wpAny _ _ (exec _ _) _ _ _); k_fold; walk1) | walk1 | (dsimp only; walk1) | (leave1; walk_say "STEP leave1"; try dsimp only) | fail "no step")
      refine' Mine.Ct0.use (Mine.ct_refB b1 b2 tb1 tb2 a5 n5) ?k1 ?k2 ?k3 ?k4 ?k5 ?kK ?kp ?kd ?ku ?_
      ((case k1 => k_asm); (case k2 => k_asm); (case k3 => k_asm); (case k4 => k_asm); (case k5 => k_asm); (case kK => first | exact rfl | assumption); (case kd => ktr_room); (case ku => ktr_units))
      case kp => k_mem
      rintro r tl h9 tk9 F9 N9 ⟨a6, n6, tr1, tr2, rfl, rfl⟩
      dsimp only [List.cons_append, List.nil_append] at N9
      obtain ⟨hpne, _, hnl, hrl, hnb, hrb, hll, hnok⟩ := hinv
      have hnl : ps.names.length ≤ 41 := by omega
      have hrl : ps.runs.length ≤ 40 := by omega
      have hnb : ∀ y ∈ ps.names, y.length ≤ 40 := fun y hy => Nat.le_trans (hnb y hy) hix
      have hrb : ∀ y ∈ ps.runs, y.length ≤ 40 := fun y hy => Nat.le_trans (hrb y hy) hix
      have hll : ps.lead.length ≤ 40 := Nat.le_trans hll hix
      have hn1 : 1 ≤ ps.names.length := List.length_pos_iff.mpr hpne
      repeat' ((fail_if_success (with_reducible show wpAny _ _ (exec (Stmt.If _ _ _ _) _) _ _ _)); first | (k_unfold; (try dsimp only)) | ((with_reducible change (_ : Flow → Shared → Prop) _ _); k_unfold; (try dsimp only)) | (k_end; wrow_close) | ((with_reducible show wpAny _ _ (exec _ _) _ _ _); k_fold; walk1) | walk1 | (dsimp only; walk1) | (leave1; walk_say "STEP leave1"; try dsimp only) | fail "no step")
      (rename Fr _ _ _ _ => F0)
      refine Mine.keep_join [(d, PySem.W.listOf v2.toArray n2), (b, PySem.W.listOf v1.toArray n1)] F0 ?_ ?_
      · by_cases hn2 : ps.names.length = 2
        · have hv2' : StrsAre v1 [ps.names.getD 0 Str.empty, ps.names.getD 1 Str.empty] := by
            have e : ps.names = [ps.names.getD 0 Str.empty, ps.names.getD 1 Str.empty] := Mine.two_of hn2
            rw [← e]; exact hv1
          have hg0 := Mine.getD_len hnb 0
          have hg1 := Mine.getD_len hnb 1
          have hok0 := Mine.getD_ok hnok 0
          have hok1 := Mine.getD_ok hnok 1
          repeat' ((fail_if_success (with_reducible show wpAny _ _ (call (Value.ref _) _) _ _ _)); first | (k_unfold; (try dsimp only)) | ((with_reducible change (_ : Flow → Shared → Prop) _ _); k_unfold; (try dsimp only)) | (k_end; wrow_close) | ((with_reducible show wpAny _ _ (exec _ _) _ _ _); k_fold; walk1) | walk1 | (dsimp only; walk1) | (leave1; walk_say "STEP leave1"; try dsimp only) | fail "no step")
          refine' Mine.Ct.use (Mine.ct_named2 v1 _ _ hv2' b n1 (by omega) (by omega)) ?k1 ?k2 ?k3 ?k4 ?k5 ?kK ?kp ?kd ?ku ?_
          ((case k1 => k_asm); (case k2 => k_asm); (case k3 => k_asm); (case k4 => k_asm); (case k5 => k_asm); (case kK => first | exact rfl | assumption); (case kd => ktr_room); (case ku => ktr_units))
          case kp => k_mem
          rintro r tl h9 tk9 F9 N9 ⟨a7, n7, ts1, ts2, rfl, rfl⟩
          dsimp only [List.cons_append, List.nil_append] at N9
          clear hv2'
          repeat' ((fail_if_success (with_reducible show wpAny _ _ (call (Value.builtin "len") _) _ _ _)); first | (k_unfold; (try dsimp only)) | ((with_reducible change (_ : Flow → Shared → Prop) _ _); k_unfold; (try dsimp only)) | (k_end; wrow_close) | ((with_reducible show wpAny _ _ (exec _ _) _ _ _); k_fold; walk1) | walk1 | (dsimp only; walk1) | (leave1; walk_say "STEP leave1"; try dsimp only) | fail "no step")
          walk1
          walk1
          walk1
          walk1
          rw [if_pos (Mine.len2_t hn2)]
          repeat' ((fail_if_success (with_reducible show wpAny _ _ (compareOp _ (Value.ref _) (Value.ref _)) _ _ _)); first | (k_unfold; (try dsimp only)) | ((with_reducible change (_ : Flow → Shared → Prop) _ _); k_unfold; (try dsimp only)) | (k_end; wrow_close) | ((with_reducible show wpAny _ _ (exec _ _) _ _ _); k_fold; walk1) | walk1 | (dsimp only; walk1) | (leave1; walk_say "STEP leave1"; try dsimp only) | fail "no step")
          refine Mine.neListsS (by k_asm) (.tail _ (.head _)) (.head _) (.cons _ _ (.cons _ _ .nil)) (.cons _ _ (.cons _ _ .nil)) (Mine.pair_ok (Mine.strOk_app (Mine.strOk_app hok0 Mine.ok_dot) hok1) Mine.ok_nil) (Mine.pair_ok (Mine.strOk_app (Mine.strOk_app hok0 Mine.ok_dot) hok1) Mine.ok_nil) ?ou ?_
          case ou => ktr_units
          intro bv hbv
          obtain rfl : bv = false := Mine.not_ne hbv rfl
          clear hbv
          (repeat' (first | (k_unfold; (try dsimp only)) | ((with_reducible change (_ : Flow → Shared → Prop) _ _); k_unfold; (try dsimp only)) | (k_end; wrow_close) | ((with_reducible show wpAny _ _ (exec _ _) _ _ _); k_fold; walk1) | walk1 | (dsimp only; walk1) | (leave1; walk_say "STEP leave1"; try dsimp only) | fail "no step"))
          exact Mine.KeepJ.intro (by k_asm) (by k_asm) (by intro p hp; (try simp only [List.append_assoc, List.nil_append, List.cons_append, List.mem_cons, List.mem_append, List.not_mem_nil, or_false, false_or] at hp ⊢); first | exact hp | (simp only [hp, true_or, or_true]; done) | (rcases hp with hp | hp <;> simp only [hp, true_or, or_true] <;> done) | grind)
        · repeat' ((fail_if_success (with_reducible show wpAny _ _ (call (Value.ref _) _) _ _ _)); first | (k_unfold; (try dsimp only)) | ((with_reducible change (_ : Flow → Shared → Prop) _ _); k_unfold; (try dsimp only)) | (k_end; wrow_close) | ((with_reducible show wpAny _ _ (exec _ _) _ _ _); k_fold; walk1) | walk1 | (dsimp only; walk1) | (leave1; walk_say "STEP leave1"; try dsimp only) | fail "no step")
          refine' Mine.Ct0.use (Mine.ct_refL b n1 v1 ps.names hv1 hn1 hn2) ?k1 ?k2 ?k3 ?k4 ?k5 ?kK ?kp ?kd ?ku ?_
          ((case k1 => k_asm); (case k2 => k_asm); (case k3 => k_asm); (case k4 => k_asm); (case k5 => k_asm); (case kK => first | exact rfl | assumption); (case kd => ktr_room); (case ku => ktr_units))
          case kp => k_mem
          rintro r tl h9 tk9 F9 N9 ⟨a7, n7, ts1, ts2, rfl, rfl⟩
          dsimp only [List.cons_append, List.nil_append] at N9
          repeat' ((fail_if_success (with_reducible show wpAny _ _ (call (Value.builtin "len") _) _ _ _)); first | (k_unfold; (try dsimp only)) | ((with_reducible change (_ : Flow → Shared → Prop) _ _); k_unfold; (try dsimp only)) | (k_end; wrow_close) | ((with_reducible show wpAny _ _ (exec _ _) _ _ _); k_fold; walk1) | walk1 | (dsimp only; walk1) | (leave1; walk_say "STEP leave1"; try dsimp only) | fail "no step")
          walk1
          walk1
          walk1
          walk1
          rw [if_neg (Mine.len2_f hn2)]
          repeat' ((fail_if_success (with_reducible show wpAny _ _ (compareOp _ (Value.ref _) (Value.ref _)) _ _ _)); first | (k_unfold; (try dsimp only)) | ((with_reducible change (_ : Flow → Shared → Prop) _ _); k_unfold; (try dsimp only)) | (k_end; wrow_close) | ((with_reducible show wpAny _ _ (exec _ _) _ _ _); k_fold; walk1) | walk1 | (dsimp only; walk1) | (leave1; walk_say "STEP leave1"; try dsimp only) | fail "no step")
          refine Mine.neListsS (by k_asm) (.head _) (.tail _ (.head _)) (.cons _ _ (.cons _ _ .nil)) (.cons _ _ (.cons _ _ .nil)) (Mine.pair_ok Mine.ok_nil Mine.refMsg_ok) (Mine.pair_ok Mine.ok_nil Mine.refMsg_ok) ?ou ?_
          case ou => ktr_units
          intro bv hbv
          obtain rfl : bv = false := Mine.not_ne hbv rfl
          clear hbv
          (repeat' (first | (k_unfold; (try dsimp only)) | ((with_reducible change (_ : Flow → Shared → Prop) _ _); k_unfold; (try dsimp only)) | (k_end; wrow_close) | ((with_reducible show wpAny _ _ (exec _ _) _ _ _); k_fold; walk1) | walk1 | (dsimp only; walk1) | (leave1; walk_say "STEP leave1"; try dsimp only) | fail "no step"))
          exact Mine.KeepJ.intro (by k_asm) (by k_asm) (by intro p hp; (try simp only [List.append_assoc, List.nil_append, List.cons_append, List.mem_cons, List.mem_append, List.not_mem_nil, or_false, false_or] at hp ⊢); first | exact hp | (simp only [hp, true_or, or_true]; done) | (rcases hp with hp | hp <;> simp only [hp, true_or, or_true] <;> done) | grind)
      intro h10 tk10 F10 N10
      (try dsimp only)
      repeat' ((fail_if_success (with_reducible show wpAny _ _ (eval (PySem.Expr.ListComp _ _ _ _) _) _ _ _)); first | (k_unfold; (try dsimp only)) | ((with_reducible change (_ : Flow → Shared → Prop) _ _); k_unfold; (try dsimp only)) | (k_end; wrow_close) | ((with_reducible show wpAny _ _ (exec _ _) _ _ _); k_fold; walk1) | walk1 | (dsimp only; walk1) | (leave1; walk_say "STEP leave1"; try dsimp only) | fail "no step")
      refine LCt.ListComp_T (by k_asm) (by with_unfolding_all rfl) (by decide) (by rfl) (by decide) (by rfl) ?_
      repeat' ((fail_if_success (with_reducible show LCt.CompSrcT _ _ _ _ _ _ _ _ _ _ _ _ _ _ _)); first | (k_unfold; (try dsimp only)) | ((with_reducible change (_ : Flow → Shared → Prop) _ _); k_unfold; (try dsimp only)) | (k_end; wrow_close) | ((with_reducible show wpAny _ _ (exec _ _) _ _ _); k_fold; walk1) | walk1 | (dsimp only; walk1) | (leave1; walk_say "STEP leave1"; try dsimp only) | fail "no step")
      refine Mine.srcT_led rfl (by k_asm) (by k_asm) (by k_mem) (by rw [hv1.length]; omega) (fun g9 => Mine.restT_strs hv1 (fun z => z != Str.ofString "" && z != Str.ofString ".") (fun z => z) ?_ ?_)
      · intro z t9 I oI C oC D m₂ ys h tk E' R R2 hz hC hx2 F1 N1 off ne hp1 hp2
        (repeat' (first | (k_unfold; (try dsimp only)) | ((with_reducible change (_ : Flow → Shared → Prop) _ _); k_unfold; (try dsimp only)) | (k_end; wrow_close) | ((with_reducible show wpAny _ _ (exec _ _) _ _ _); k_fold; walk1) | walk1 | (dsimp only; walk1) | (leave1; walk_say "STEP leave1"; try dsimp only) | fail "no step"))
        · refine LCg.CompEnd.intro (by k_asm) (by k_asm) _ (fun p hp => .tail _ hp) (by assumption) (.inr ⟨_, .tail _ (.head _), rfl, _, rfl⟩) ?_
          exact hp2 (Mine.any_t (by assumption))
        · refine LCg.CompEnd.intro (by k_asm) (by k_asm) _ (fun p hp => .tail _ hp) (by assumption) (.inr ⟨_, .tail _ (.head _), rfl, _, rfl⟩) ?_
          exact hp1 (Mine.any_f (by assumption)) _
      intro ys hys D h tk F1 N1 off
      have hys2 : StrsAre ys (ps.names.filter (fun z => z != Str.ofString "" && z != Str.ofString ".")) := by simpa using hys
      have hfb : ∀ y ∈ ps.names.filter (fun z => z != Str.ofString "" && z != Str.ofString "."), y.length ≤ 5000 := fun y hy => Nat.le_trans (hnb y (List.mem_filter.mp hy).1) (by decide)
      have hfl : (ps.names.filter (fun z => z != Str.ofString "" && z != Str.ofString ".")).length ≤ 3000 := Nat.le_trans (List.length_filter_le _ _) (Nat.le_trans hnl (by decide))
      clear hys
      repeat' ((fail_if_success (with_reducible show wpAny _ _ (call (Value.builtin "str.join") _) _ _ _)); first | (k_unfold; (try dsimp only)) | ((with_reducible change (_ : Flow → Shared → Prop) _ _); k_unfold; (try dsimp only)) | (k_end; wrow_close) | ((with_reducible show wpAny _ _ (exec _ _) _ _ _); k_fold; walk1) | walk1 | (dsimp only; walk1) | (leave1; walk_say "STEP leave1"; try dsimp only) | fail "no step")
      refine' Mine.joinV ?l hys2 ?x hfb hfl ?_
      case l => exact ⟨_, News.get (by k_asm) (.head _), rfl, _, rfl⟩
      case x => decide
      intro t3 k3 z3 ez3 lz3
      clear hfb hfl hys2
      have hpl : Mine.commonP (Mine.S l) = Txt.slice ps.lead none (some 1) ++ z3 := by rw [ez3, hps]; exact Mine.common_plain l
      clear ez3
      repeat' ((fail_if_success (with_reducible show wpAny _ _ (exec (Stmt.If _ _ _ _) _) _ _ _)); first | (k_unfold; (try dsimp only)) | ((with_reducible change (_ : Flow → Shared → Prop) _ _); k_unfold; (try dsimp only)) | (k_end; wrow_close) | ((with_reducible show wpAny _ _ (exec _ _) _ _ _); k_fold; walk1) | walk1 | (dsimp only; walk1) | (leave1; walk_say "STEP leave1"; try dsimp only) | fail "no step")
      (rename Fr _ _ _ _ => F0)
      refine Mine.keep_join [(d, PySem.W.listOf v2.toArray n2), (b, PySem.W.listOf v1.toArray n1)] F0 ?_ ?_
      · repeat' ((fail_if_success (with_reducible show wpAny _ _ (call (Value.ref _) _) _ _ _)); first | (k_unfold; (try dsimp only)) | ((with_reducible change (_ : Flow → Shared → Prop) _ _); k_unfold; (try dsimp only)) | (k_end; wrow_close) | ((with_reducible show wpAny _ _ (exec _ _) _ _ _); k_fold; walk1) | walk1 | (dsimp only; walk1) | (leave1; walk_say "STEP leave1"; try dsimp only) | fail "no step")
        refine' Mine.Ct.use (Mine.ct_common (Mine.S l) _ _ _ (by rw [Mine.len_S]; exact Nat.le_trans hle2 (by decide))) ?k1 ?k2 ?k3 ?k4 ?k5 ?kK ?kp ?kd ?ku ?_
        ((case k1 => k_asm); (case k2 => k_asm); (case k3 => k_asm); (case k4 => k_asm); (case k5 => k_asm); (case kK => first | exact rfl | assumption); (case kd => ktr_room); (case ku => ktr_units))
        case kp => k_mem
        rintro r tl h9 tk9 F9 N9 ⟨rfl, tc, rfl⟩
        dsimp only [List.cons_append, List.nil_append] at N9
        rw [hpl]
        repeat' ((fail_if_success (with_reducible show wpAny _ _ (compareOp CmpOp.NotEq (Value.str _ _) (Value.str _ _)) _ _ _)); first | (k_unfold; (try dsimp only)) | ((with_reducible change (_ : Flow → Shared → Prop) _ _); k_unfold; (try dsimp only)) | (k_end; wrow_close) | ((with_reducible show wpAny _ _ (exec _ _) _ _ _); k_fold; walk1) | walk1 | (dsimp only; walk1) | (leave1; walk_say "STEP leave1"; try dsimp only) | fail "no step")
        walk1
        simp only [bne_self_eq_false]
        (repeat' (first | (k_unfold; (try dsimp only)) | ((with_reducible change (_ : Flow → Shared → Prop) _ _); k_unfold; (try dsimp only)) | (k_end; wrow_close) | ((with_reducible show wpAny _ _ (exec _ _) _ _ _); k_fold; walk1) | walk1 | (dsimp only; walk1) | (leave1; walk_say "STEP leave1"; try dsimp only) | fail "no step"))
        exact Mine.KeepJ.intro (by k_asm) (by k_asm) (by intro p hp; (try simp only [List.append_assoc, List.nil_append, List.cons_append, List.mem_cons, List.mem_append, List.not_mem_nil, or_false, false_or] at hp ⊢); first | exact hp | (simp only [hp, true_or, or_true]; done) | (rcases hp with hp | hp <;> simp only [hp, true_or, or_true] <;> done) | grind)
      intro h10 tk10 F10 N10
      (try dsimp only)
      generalize hpg : Txt.slice ps.lead none (some 1) ++ z3 = plain at hpl F10
      clear hpg
      repeat' ((fail_if_success (with_reducible show wpAny _ _ (exec (Stmt.For _ _ _ _ _) _) _ _ _)); first | (k_unfold; (try dsimp only)) | ((with_reducible change (_ : Flow → Shared → Prop) _ _); k_unfold; (try dsimp only)) | (k_end; wrow_close) | ((with_reducible show wpAny _ _ (exec _ _) _ _ _); k_fold; walk1) | walk1 | (dsimp only; walk1) | (leave1; walk_say "STEP leave1"; try dsimp only) | fail "no step")
      refine Mine.For_F (by k_asm) (by rfl) (by rfl) ?_
      repeat' ((fail_if_success (with_reducible show wpAny _ _ (pyIter _) _ _ _)); first | (k_unfold; (try dsimp only)) | ((with_reducible change (_ : Flow → Shared → Prop) _ _); k_unfold; (try dsimp only)) | (k_end; wrow_close) | ((with_reducible show wpAny _ _ (exec _ _) _ _ _); k_fold; walk1) | walk1 | (dsimp only; walk1) | (leave1; walk_say "STEP leave1"; try dsimp only) | fail "no step")
      have hd0 := Mine.due_0 l
      have hnr := Mine.names_runs l
      rw [← hps] at hnr
      refine' Mine.loopRange (fun i => Mine.SJ (fun (c : Mine.LS) => [(Str.ofString "told", Value.str c.told c.t1), (Str.ofString "back", Value.str c.back c.t2)]) [Str.ofString "steps", Str.ofString "due", Str.ofString "root", Str.ofString "words"] _
          (fun c nx => nx = [(d, PySem.W.listOf v2.toArray n2), (b, PySem.W.listOf v1.toArray n1)] ∧ c.told = Mine.dueA l i ∧ c.back.length ≤ 20000 ∧ (ps.runs.length < i → ∃ root ws, Mine.WordsP ps.lead (Mine.dueA l (i - 1)) root ws ∧ c.back = Mine.laidP root ws))) rfl (by assumption) ?gs ?gz (by k_asm) (by k_asm) ?gi ?gt ?gd
      case gs => exact Mine.small3 hrl
      case gz => exact rangeSize_nat _ _
      case gi =>
        refine' Mine.SJ.init ⟨Mine.S l, _, Str.ofString "", _⟩ ⟨rfl, hd0.symm, (by show (Str.ofString "").length ≤ 20000; decide), fun h => absurd h (Nat.not_lt_zero _)⟩ ?gh
        case gh => intro p hp; rcases List.mem_cons.mp hp with rfl | hp; exact rfl; rw [List.mem_singleton.mp hp]; exact rfl
      case gt =>
        rintro i u m₁ nx h tk own oI hi ⟨⟨told, tt1, back, tt2⟩, ⟨rfl, htold, hbk, hbw⟩, h1, h2⟩ ha hown F1 N1
        rw [← Mine.kst_map h1 h2] at F1
        dsimp only at htold hbk hbw F1 N1 ha
        subst htold
        have hi3 := Mine.rng3 hi
        have hr36 : ps.runs.length ≤ 36 := by rw [hps]; exact Nat.le_trans (Mine.runs_le l) hle2
        have hin : l.length + i ≤ 90 := Mine.sum_100 hle2 hi3 hr36
        have hdue : Mine.dueP ps.lead ps.names ps.runs ((i : Nat) : Int) = Mine.dueA l i := by rw [hps]
        have hdl : (Mine.dueA l i).length ≤ 100 := Nat.le_trans (Mine.due_len l i) (Nat.le_trans hin (by decide))
        repeat' ((fail_if_success (with_reducible show wpAny _ _ (call (Value.ref _) _) _ _ _)); first | (k_unfold; (try dsimp only)) | ((with_reducible change (_ : Flow → Shared → Prop) _ _); k_unfold; (try dsimp only)) | (k_end; wrow_close) | ((with_reducible show wpAny _ _ (exec _ _) _ _ _); k_fold; walk1) | walk1 | (dsimp only; walk1) | (leave1; walk_say "STEP leave1"; try dsimp only) | fail "no step")
        refine' Mine.Ct.use (Mine.ct_due ps.lead _ _ b d n1 n2 v1 v2 ps.names ps.runs ((i : Nat) : Int) hv1 hv2 ?da ?db ?dc ?dd ?de ?df ?dg ?dh) ?k1 ?k2 ?k3 ?k4 ?k5 ?kK ?kp ?kd ?ku ?_
        ((case k1 => k_asm); (case k2 => k_asm); (case k3 => k_asm); (case k4 => k_asm); (case k5 => k_asm); (case kK => first | exact rfl | assumption); (case kd => ktr_room); (case ku => ktr_units))
        case kp => exact ⟨by k_mem, by k_mem⟩
        case da => exact Mine.le_40a hnr hr36
        case db => exact Nat.le_trans hr36 (by decide)
        case dc => exact Int.natCast_nonneg _
        case dd => exact Mine.le_60 hi3 hr36
        case de => exact Nat.le_trans hll (by decide)
        case df => exact Nat.le_of_eq hnr
        case dg => exact fun y hy => Nat.le_trans (hnb y hy) (by decide)
        case dh => exact fun y hy => Nat.le_trans (hrb y hy) (by decide)
        rintro r tl h9 tk9 F9 N9 ⟨rfl, td, rfl⟩
        dsimp only [List.cons_append, List.nil_append] at N9
        rw [hdue]
        repeat' ((fail_if_success (with_reducible show wpAny _ _ (compareOp CmpOp.NotEq (Value.str _ _) (Value.str _ _)) _ _ _)); first | (k_unfold; (try dsimp only)) | ((with_reducible change (_ : Flow → Shared → Prop) _ _); k_unfold; (try dsimp only)) | (k_end; wrow_close) | ((with_reducible show wpAny _ _ (exec _ _) _ _ _); k_fold; walk1) | walk1 | (dsimp only; walk1) | (leave1; walk_say "STEP leave1"; try dsimp only) | fail "no step")
        walk1
        simp only [bne_self_eq_false]
        repeat' ((fail_if_success (with_reducible show wpAny _ _ (call (Value.builtin "len") _) _ _ _)); first | (k_unfold; (try dsimp only)) | ((with_reducible change (_ : Flow → Shared → Prop) _ _); k_unfold; (try dsimp only)) | (k_end; wrow_close) | ((with_reducible show wpAny _ _ (exec _ _) _ _ _); k_fold; walk1) | walk1 | (dsimp only; walk1) | (leave1; walk_say "STEP leave1"; try dsimp only) | fail "no step")
        walk1
        walk1
        walk1
        by_cases hge : ps.runs.length ≤ i
        · rw [if_pos (Mine.ge_t hge)]
          repeat' ((fail_if_success (with_reducible show wpAny _ _ (call (Value.ref _) _) _ _ _)); first | (k_unfold; (try dsimp only)) | ((with_reducible change (_ : Flow → Shared → Prop) _ _); k_unfold; (try dsimp only)) | (k_end; wrow_close) | ((with_reducible show wpAny _ _ (exec _ _) _ _ _); k_fold; walk1) | walk1 | (dsimp only; walk1) | (leave1; walk_say "STEP leave1"; try dsimp only) | fail "no step")
          refine' Mine.Ct.use (Mine.ct_words ps.lead (Mine.dueA l i) _ _ (Nat.le_trans hll (by decide)) (Nat.le_trans hdl (by decide))) ?k1 ?k2 ?k3 ?k4 ?k5 ?kK ?kp ?kd ?ku ?_
          ((case k1 => k_asm); (case k2 => k_asm); (case k3 => k_asm); (case k4 => k_asm); (case k5 => k_asm); (case kK => first | exact rfl | assumption); (case kd => ktr_room); (case ku => ktr_units))
          case kp => trivial
          rintro r tl h9 tk9 F9 N9 ⟨aw, nw, bw, kw, vw, tw, wl, root, rfl, rfl, hvw, hwp⟩
          dsimp only [List.cons_append, List.nil_append] at N9
          have hwp2 : Mine.WordsP (Mine.partsP l).lead (Mine.dueA l i) root wl := hps ▸ hwp
          have hge2 : (Mine.partsP l).runs.length ≤ i := hps ▸ hge
          obtain ⟨hw1, hw2, hw3, hw4, hw5⟩ := Mine.words_ok hge2 hin (fun c hc => hok c (by rw [Mine.tl_S]; exact hc)) hwp2
          repeat' ((fail_if_success (with_reducible show wpAny _ _ (call (Value.ref _) _) _ _ _)); first | (k_unfold; (try dsimp only)) | ((with_reducible change (_ : Flow → Shared → Prop) _ _); k_unfold; (try dsimp only)) | (k_end; wrow_close) | ((with_reducible show wpAny _ _ (exec _ _) _ _ _); k_fold; walk1) | walk1 | (dsimp only; walk1) | (leave1; walk_say "STEP leave1"; try dsimp only) | fail "no step")
          refine' Mine.Ct.use (Mine.ct_peeled (Mine.dueA l i) _ (Nat.le_trans hdl (by decide))) ?k1 ?k2 ?k3 ?k4 ?k5 ?kK ?kp ?kd ?ku ?_
          ((case k1 => k_asm); (case k2 => k_asm); (case k3 => k_asm); (case k4 => k_asm); (case k5 => k_asm); (case kK => first | exact rfl | assumption); (case kd => ktr_room); (case ku => ktr_units))
          case kp => trivial
          rintro r tl h9 tk9 F9 N9 ⟨ap, np, bp, kp, vp, tp, wsp, rest, ip, up, zp, rfl, rfl, hvp, hpp, hus, hz⟩
          dsimp only [List.cons_append, List.nil_append] at N9
          obtain ⟨rfl, rfl⟩ := Mine.words_peel hge2 hwp2 hpp hus hz
          repeat' ((fail_if_success (with_reducible show wpAny _ _ (compareOp _ (Value.ref _) (Value.ref _)) _ _ _)); first | (k_unfold; (try dsimp only)) | ((with_reducible change (_ : Flow → Shared → Prop) _ _); k_unfold; (try dsimp only)) | (k_end; wrow_close) | ((with_reducible show wpAny _ _ (exec _ _) _ _ _); k_fold; walk1) | walk1 | (dsimp only; walk1) | (leave1; walk_say "STEP leave1"; try dsimp only) | fail "no step")
          refine Mine.neTupS (by k_asm) (by k_mem) (by k_mem) (by k_mem) (by k_mem) hvp hvw hw4 hw5 ?ou ?_
          case ou => ktr_units
          repeat' ((fail_if_success (with_reducible show wpAny _ _ (call (Value.ref _) _) _ _ _)); first | (k_unfold; (try dsimp only)) | ((with_reducible change (_ : Flow → Shared → Prop) _ _); k_unfold; (try dsimp only)) | (k_end; wrow_close) | ((with_reducible show wpAny _ _ (exec _ _) _ _ _); k_fold; walk1) | walk1 | (dsimp only; walk1) | (leave1; walk_say "STEP leave1"; try dsimp only) | fail "no step")
          refine star_seq (T := "list") (ws := vw) (by k_asm) (by k_asm) (by k_mem) rfl rfl (.inl rfl) rfl (by rw [List.size_toArray, hvw.length]; exact Nat.le_trans hw2 (by decide)) ?_
          intro hS FS NS
          (try dsimp only [List.nil_append, List.cons_append, List.append_nil])
          repeat' ((fail_if_success (with_reducible show wpAny _ _ (call (Value.ref _) _) _ _ _)); first | (k_unfold; (try dsimp only)) | ((with_reducible change (_ : Flow → Shared → Prop) _ _); k_unfold; (try dsimp only)) | (k_end; wrow_close) | ((with_reducible show wpAny _ _ (exec _ _) _ _ _); k_fold; walk1) | walk1 | (dsimp only; walk1) | (leave1; walk_say "STEP leave1"; try dsimp only) | fail "no step")
          (try simp only [List.append_nil])
          refine' Mine.Ct.use (Mine.ct_join _ _ vw _ hvw hw2 (Nat.le_trans hw1 (by decide)) hw3) ?k1 ?k2 ?k3 ?k4 ?k5 ?kK ?kp ?kd ?ku ?_
          ((case k1 => k_asm); (case k2 => k_asm); (case k3 => k_asm); (case k4 => k_asm); (case k5 => k_asm); (case kK => first | exact rfl | assumption); (case kd => ktr_room); (case ku => ktr_units))
          case kp => trivial
          rintro r tl h9 tk9 F9 N9 ⟨rfl, tj, rfl⟩
          dsimp only [List.cons_append, List.nil_append] at N9
          have hjl := Mine.words_join hne2 hge2 hwp2
          have hjle := Nat.le_trans (Mine.joinP_len _ 100 _ hw3) (Mine.le_join hw1 hw2)
          rw [hjl]
          rw [hjl] at hjle
          repeat' ((fail_if_success (with_reducible show wpAny _ _ (call (Value.ref _) _) _ _ _)); first | (k_unfold; (try dsimp only)) | ((with_reducible change (_ : Flow → Shared → Prop) _ _); k_unfold; (try dsimp only)) | (k_end; wrow_close) | ((with_reducible show wpAny _ _ (exec _ _) _ _ _); k_fold; walk1) | walk1 | (dsimp only; walk1) | (leave1; walk_say "STEP leave1"; try dsimp only) | fail "no step")
          refine' Mine.Ct.use (Mine.ct_laid _ _ _ _ vw _ hvw (Nat.le_trans hw2 (by decide)) (Nat.le_trans hw1 (by decide)) (fun y hy => Nat.le_trans (hw3 y hy) (by decide)) hw5) ?k1 ?k2 ?k3 ?k4 ?k5 ?kK ?kp ?kd ?ku ?_
          ((case k1 => k_asm); (case k2 => k_asm); (case k3 => k_asm); (case k4 => k_asm); (case k5 => k_asm); (case kK => first | exact rfl | assumption); (case kd => ktr_room); (case ku => ktr_units))
          case kp => k_mem
          rintro r tl h9 tk9 F9 N9 ⟨rfl, tlq, rfl⟩
          dsimp only [List.cons_append, List.nil_append] at N9
          repeat' ((fail_if_success (with_reducible show wpAny _ _ (compareOp CmpOp.NotEq (Value.str _ _) (Value.str _ _)) _ _ _)); first | (k_unfold; (try dsimp only)) | ((with_reducible change (_ : Flow → Shared → Prop) _ _); k_unfold; (try dsimp only)) | (k_end; wrow_close) | ((with_reducible show wpAny _ _ (exec _ _) _ _ _); k_fold; walk1) | walk1 | (dsimp only; walk1) | (leave1; walk_say "STEP leave1"; try dsimp only) | fail "no step")
          walk1
          simp only [bne_self_eq_false]
          obtain ⟨hsH, hsT⟩ := Mine.split_len hin
          (repeat' (first | (k_unfold; (try dsimp only)) | ((with_reducible change (_ : Flow → Shared → Prop) _ _); k_unfold; (try dsimp only)) | (k_end; wrow_close) | ((with_reducible show wpAny _ _ (exec _ _) _ _ _); k_fold; walk1) | walk1 | (dsimp only; walk1) | (leave1; walk_say "STEP leave1"; try dsimp only) | fail "no step"))
          dsimp only [Mine.LPost]
          refine Mine.LEnd.intro _ (by k_asm) (by k_asm) (by intro p hp; (try simp only [List.append_assoc, List.nil_append, List.cons_append, List.mem_cons, List.mem_append, List.not_mem_nil, or_false, false_or] at hp ⊢); first | exact hp | (simp only [hp, true_or, or_true]; done) | (rcases hp with hp | hp <;> simp only [hp, true_or, or_true] <;> done) | grind) (by intro p hp; (try simp only [List.append_assoc, List.nil_append, List.cons_append, List.mem_cons, List.mem_append, List.not_mem_nil, or_false, false_or] at hp ⊢); first | exact hp | (simp only [hp, true_or, or_true]; done) | (rcases hp with hp | hp <;> simp only [hp, true_or, or_true] <;> done) | grind) ha ⟨⟨_, _, _, _⟩, ⟨rfl, Mine.due_1 l i, hjle, fun _ => ⟨_, _, hwp, rfl⟩⟩, (by intro p hp; rcases List.mem_cons.mp hp with rfl | hp; exact rfl; rw [List.mem_singleton.mp hp]; exact rfl), (by (intro z h2 h3; (have h4 := h3); (simp only [List.contains_cons, List.contains_nil, Bool.or_false, Bool.or_eq_false_iff, beq_eq_false_iff_ne, ne_eq] at h4); (simp only [List.forall_mem_cons, List.not_mem_nil, false_implies, implies_true, and_true, ne_eq] at h2); (try simp only [kstB, h2, h3, h4, if_false, Bool.false_eq_true]); try rfl))⟩
        · rw [if_neg (Mine.ge_f hge)]
          obtain ⟨hsH, hsT⟩ := Mine.split_len hin
          (repeat' (first | (k_unfold; (try dsimp only)) | ((with_reducible change (_ : Flow → Shared → Prop) _ _); k_unfold; (try dsimp only)) | (k_end; wrow_close) | ((with_reducible show wpAny _ _ (exec _ _) _ _ _); k_fold; walk1) | walk1 | (dsimp only; walk1) | (leave1; walk_say "STEP leave1"; try dsimp only) | fail "no step"))
          dsimp only [Mine.LPost]
          refine Mine.LEnd.intro _ (by k_asm) (by k_asm) (by intro p hp; (try simp only [List.append_assoc, List.nil_append, List.cons_append, List.mem_cons, List.mem_append, List.not_mem_nil, or_false, false_or] at hp ⊢); first | exact hp | (simp only [hp, true_or, or_true]; done) | (rcases hp with hp | hp <;> simp only [hp, true_or, or_true] <;> done) | grind) (by intro p hp; (try simp only [List.append_assoc, List.nil_append, List.cons_append, List.mem_cons, List.mem_append, List.not_mem_nil, or_false, false_or] at hp ⊢); first | exact hp | (simp only [hp, true_or, or_true]; done) | (rcases hp with hp | hp <;> simp only [hp, true_or, or_true] <;> done) | grind) ha ⟨⟨_, _, _, _⟩, ⟨rfl, Mine.due_1 l i, hbk, fun h => (Mine.no_lt hge h).elim⟩, (by intro p hp; rcases List.mem_cons.mp hp with rfl | hp; exact rfl; rw [List.mem_singleton.mp hp]; exact rfl), (by (intro z h2 h3; (have h4 := h3); (simp only [List.contains_cons, List.contains_nil, Bool.or_false, Bool.or_eq_false_iff, beq_eq_false_iff_ne, ne_eq] at h4); (simp only [List.forall_mem_cons, List.not_mem_nil, false_implies, implies_true, and_true, ne_eq] at h2); (try simp only [kstB, h2, h3, h4, if_false, Bool.false_eq_true]); try rfl))⟩
      case gd =>
        rintro m₁ nx h tk ⟨⟨told, tt1, back, tt2⟩, ⟨rfl, htold, hbk, hbw⟩, h1, h2⟩ F1 N1
        rw [← Mine.kst_map h1 h2] at F1
        dsimp only at htold hbk hbw F1 N1
        subst htold
        rw [Mine.rng3n] at hbw
        obtain ⟨root, ws, hwp, hbe⟩ := hbw (by omega)
        subst hbe
        rw [hps] at hwp
        repeat' ((fail_if_success (with_reducible show wpAny _ _ (exec (Stmt.If _ _ _ _) _) _ _ _)); first | (k_unfold; (try dsimp only)) | ((with_reducible change (_ : Flow → Shared → Prop) _ _); k_unfold; (try dsimp only)) | (k_end; wrow_close) | ((with_reducible show wpAny _ _ (exec _ _) _ _ _); k_fold; walk1) | walk1 | (dsimp only; walk1) | (leave1; walk_say "STEP leave1"; try dsimp only) | fail "no step")
        repeat' ((fail_if_success (with_reducible show wpAny _ _ (call (Value.ref _) _) _ _ _)); first | (k_unfold; (try dsimp only)) | ((with_reducible change (_ : Flow → Shared → Prop) _ _); k_unfold; (try dsimp only)) | (k_end; wrow_close) | ((with_reducible show wpAny _ _ (exec _ _) _ _ _); k_fold; walk1) | walk1 | (dsimp only; walk1) | (leave1; walk_say "STEP leave1"; try dsimp only) | fail "no step")
        have hoc : (Builtin.Str.occurrences (Mine.S l) (Str.ofString ".") 0 (Mine.S l).length 1).isEmpty = true := by assumption
        have hn0 : (ps.names.getD (Int.toNat 0) Str.empty == Str.ofString "") = false := by assumption
        have hbo : (Mine.bareP l (Mine.laidP root ws)).length ≤ 1000 ∧ _ := Mine.bare_ok hle2 hoc (by rw [← hps]; exact hn0) (by rw [← hps] at hwp ⊢; exact hwp)
        obtain ⟨hb1, hb2, hb3⟩ := hbo
        have hbe : ps.lead ++ Txt.slice (Mine.laidP root ws) (some (((ps.lead.length : Nat) : Int) + 2)) none = Mine.bareP l (Mine.laidP root ws) := by rw [hps]; rfl
        rw [← hbe] at hb1 hb2 hb3
        refine' Mine.Ct.use (Mine.ct_common2 _ (Mine.S l) _ _ _ _ hb1 (by rw [Mine.len_S]; exact Nat.le_trans hle2 (by decide)) hb2 hb3) ?k1 ?k2 ?k3 ?k4 ?k5 ?kK ?kp ?kd ?ku ?_
        ((case k1 => k_asm); (case k2 => k_asm); (case k3 => k_asm); (case k4 => k_asm); (case k5 => k_asm); (case kK => first | exact rfl | assumption); (case kd => ktr_room); (case ku => ktr_units))
        case kp => k_mem
        rintro r tl h9 tk9 F9 N9 ⟨rfl, tc, rfl⟩
        dsimp only [List.cons_append, List.nil_append] at N9
        rw [Mine.common_same hb2 hb3, hpl]
        repeat' ((fail_if_success (with_reducible show wpAny _ _ (compareOp CmpOp.Eq (Value.str _ _) (Value.str _ _)) _ _ _)); first | (k_unfold; (try dsimp only)) | ((with_reducible change (_ : Flow → Shared → Prop) _ _); k_unfold; (try dsimp only)) | (k_end; wrow_close) | ((with_reducible show wpAny _ _ (exec _ _) _ _ _); k_fold; walk1) | walk1 | (dsimp only; walk1) | (leave1; walk_say "STEP leave1"; try dsimp only) | fail "no step")
        walk1
        simp only [beq_self_eq_true]
        (repeat' (first | (k_unfold; (try dsimp only)) | ((with_reducible change (_ : Flow → Shared → Prop) _ _); k_unfold; (try dsimp only)) | (k_end; wrow_close) | ((with_reducible show wpAny _ _ (exec _ _) _ _ _); k_fold; walk1) | walk1 | (dsimp only; walk1) | (leave1; walk_say "STEP leave1"; try dsimp only) | fail "no step"))

