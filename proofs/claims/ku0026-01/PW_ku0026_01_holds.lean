import PyProof.Rows.All
import Wide.All
import OpenK.AllK
import Wide.FinOn
import PySem.Challenge.RW_ku0026_01
open PySem PySem.W PyProof.Rows
set_option Elab.async false
set_option maxRecDepth 100000
set_option maxHeartbeats 0
namespace Mine
noncomputable section
namespace LH
noncomputable def pw : Program := PySem.Challenge.rw_ku0026_01.row.toRowW.1
noncomputable def dAt (i : Nat) : DefRec := match PySem.Challenge.pw_ku0026_01.main.body.drop i with
  | Stmt.FunctionDef n ps bd _ _ _ sc _ _ pos :: _ => ⟨n, ps, bd, sc, pos⟩
  | _ => ⟨Str.ofString "", ⟨[], [], none, [], [], none, []⟩, [], { kind := .module, names := [], isGenerator := false, isCoroutine := false }, { line := 0, col := 0, endLine := 0, endCol := 0 }⟩
noncomputable def fnO (i : Nat) (df kd md c : Value) : Obj :=
  { cls := Value.type "function", data := Data.func { name := (dAt i).name, qualname := (dAt i).name, params := (dAt i).params, body := FuncBody.stmts (dAt i).body, scope := (dAt i).scope, globals := 3, closure := [], defaults := df, kwdefaults := kd, pyModule := md, code := c } }
noncomputable def o2 (P : Params) : Obj := { cls := Value.none, data := Data.dict #[{ hash := PyData.keyHash P (Str.ofString "\x69mport.loaded._sre"), key := Value.str (Str.ofString "\x69mport.loaded._sre") 183, val := Value.bool true }, { hash := PyData.keyHash P (Str.ofString "class._frozen_importlib.BuiltinImporter"), key := Value.str (Str.ofString "class._frozen_importlib.BuiltinImporter") 185, val := Value.ref 14 }, { hash := PyData.keyHash P (Str.ofString "watched.\x69mport"), key := Value.str (Str.ofString "watched.\x69mport") 206, val := Value.ref 18 }, { hash := PyData.keyHash P (Str.ofString "class._frozen_importlib.ModuleSpec"), key := Value.str (Str.ofString "class._frozen_importlib.ModuleSpec") 216, val := Value.ref 22 }, { hash := PyData.keyHash P (Str.ofString "sys.modules.booked-epoch"), key := Value.str (Str.ofString "sys.modules.booked-epoch") 245, val := Value.int 3 0 }, { hash := PyData.keyHash P (Str.ofString "\x69mport.later-laid._sre"), key := Value.str (Str.ofString "\x69mport.later-laid._sre") 270, val := Value.bool true }, { hash := PyData.keyHash P (Str.ofString "watched.library"), key := Value.str (Str.ofString "watched.library") 272, val := Value.ref 27 }, { hash := PyData.keyHash P (Str.ofString "watched.library-objects"), key := Value.str (Str.ofString "watched.library-objects") 0, val := Value.str (Str.ofString "\x0c") 0 }, { hash := PyData.keyHash P (Str.ofString "watched.library-deep._sre"), key := Value.str (Str.ofString "watched.library-deep._sre") 273, val := Value.str (Str.ofString "\x04\x00\x00\x0b\x04\x00\x00\x0b\x04\x00\x00\x03\x04\x00\x00\x0b\x08\x04dict\x02") 0 }] 9 }
noncomputable def o3 (P : Params) : Obj := { cls := Value.type "dict", data := Data.dict #[{ hash := PyData.keyHash P (Str.ofString "__name__"), key := Value.str (Str.ofString "__name__") 165, val := Value.str (Str.ofString "law_ku0026_01") 698 }, { hash := PyData.keyHash P (Str.ofString "__doc__"), key := Value.str (Str.ofString "__doc__") 166, val := Value.none }, { hash := PyData.keyHash P (Str.ofString "__package__"), key := Value.str (Str.ofString "__package__") 167, val := Value.none }, { hash := PyData.keyHash P (Str.ofString "__loader__"), key := Value.str (Str.ofString "__loader__") 168, val := Value.builtin "__main__.__loader__#opaque" }, { hash := PyData.keyHash P (Str.ofString "__spec__"), key := Value.str (Str.ofString "__spec__") 169, val := Value.none }, { hash := PyData.keyHash P (Str.ofString "__annotations__"), key := Value.str (Str.ofString "__annotations__") 170, val := Value.ref 6 }, { hash := PyData.keyHash P (Str.ofString "__builtins__"), key := Value.str (Str.ofString "__builtins__") 171, val := Value.ref 4 }, { hash := PyData.keyHash P (Str.ofString "__file__"), key := Value.str (Str.ofString "__file__") 173, val := Value.str (Str.ofString "/claim/cut.py") 172 }, { hash := PyData.keyHash P (Str.ofString "__cached__"), key := Value.str (Str.ofString "__cached__") 174, val := Value.none }, { hash := PyData.keyHash P (Str.ofString "_sre"), key := Value.str (Str.ofString "_sre") 275, val := Value.ref 12 }, { hash := PyData.keyHash P (Str.ofString "_wall"), key := Value.str (Str.ofString "_wall") 288, val := Value.ref 38 }, { hash := PyData.keyHash P (Str.ofString "_DIV_LIMIT"), key := Value.str (Str.ofString "_DIV_LIMIT") 292, val := Value.int 4000 291 }, { hash := PyData.keyHash P (Str.ofString "_div2n1n"), key := Value.str (Str.ofString "_div2n1n") 309, val := Value.ref 45 }, { hash := PyData.keyHash P (Str.ofString "_div3n2n"), key := Value.str (Str.ofString "_div3n2n") 323, val := Value.ref 52 }, { hash := PyData.keyHash P (Str.ofString "_int2digits"), key := Value.str (Str.ofString "_int2digits") 334, val := Value.ref 59 }, { hash := PyData.keyHash P (Str.ofString "_digits2int"), key := Value.str (Str.ofString "_digits2int") 345, val := Value.ref 66 }, { hash := PyData.keyHash P (Str.ofString "_divmod_pos"), key := Value.str (Str.ofString "_divmod_pos") 360, val := Value.ref 73 }, { hash := PyData.keyHash P (Str.ofString "int_divmod"), key := Value.str (Str.ofString "int_divmod") 370, val := Value.ref 80 }, { hash := PyData.keyHash P (Str.ofString "bytes_types"), key := Value.str (Str.ofString "bytes_types") 373, val := Value.ref 81 }, { hash := PyData.keyHash P (Str.ofString "_bytes_from_decode_data"), key := Value.str (Str.ofString "_bytes_from_decode_data") 380, val := Value.ref 88 }, { hash := PyData.keyHash P (Str.ofString "Error"), key := Value.str (Str.ofString "Error") 400, val := Value.ref 98 }, { hash := PyData.keyHash P (Str.ofString "_ascii_buffer"), key := Value.str (Str.ofString "_ascii_buffer") 408, val := Value.ref 108 }, { hash := PyData.keyHash P (Str.ofString "_buffer"), key := Value.str (Str.ofString "_buffer") 416, val := Value.ref 115 }, { hash := PyData.keyHash P (Str.ofString "_truth"), key := Value.str (Str.ofString "_truth") 424, val := Value.ref 122 }, { hash := PyData.keyHash P (Str.ofString "_B64"), key := Value.str (Str.ofString "_B64") 426, val := Value.bytes #[65, 66, 67, 68, 69, 70, 71, 72, 73, 74, 75, 76, 77, 78, 79, 80, 81, 82, 83, 84, 85, 86, 87, 88, 89, 90, 97, 98, 99, 100, 101, 102, 103, 104, 105, 106, 107, 108, 109, 110, 111, 112, 113, 114, 115, 116, 117, 118, 119, 120, 121, 122, 48, 49, 50, 51, 52, 53, 54, 55, 56, 57, 43, 47] 425 }, { hash := PyData.keyHash P (Str.ofString "_b64_value"), key := Value.str (Str.ofString "_b64_value") 433, val := Value.ref 129 }, { hash := PyData.keyHash P (Str.ofString "a2b_base64"), key := Value.str (Str.ofString "a2b_base64") 449, val := Value.ref 137 }, { hash := PyData.keyHash P (Str.ofString "b2a_base64"), key := Value.str (Str.ofString "b2a_base64") 463, val := Value.ref 145 }, { hash := PyData.keyHash P (Str.ofString "b64encode"), key := Value.str (Str.ofString "b64encode") 474, val := Value.ref 153 }, { hash := PyData.keyHash P (Str.ofString "b64decode"), key := Value.str (Str.ofString "b64decode") 483, val := Value.ref 161 }, { hash := PyData.keyHash P (Str.ofString "_twin_re_1"), key := Value.str (Str.ofString "_twin_re_1") 521, val := Value.ref 166 }, { hash := PyData.keyHash P (Str.ofString "_special_chars_map"), key := Value.str (Str.ofString "_special_chars_map") 669, val := Value.ref 168 }, { hash := PyData.keyHash P (Str.ofString "escape"), key := Value.str (Str.ofString "escape") 676, val := Value.ref 178 }, { hash := PyData.keyHash P (Str.ofString "_translate"), key := Value.str (Str.ofString "_translate") 697, val := Value.ref 185 }, { hash := PyData.keyHash P (Str.ofString "_law_writing"), key := Value.str (Str.ofString "_law_writing") 707, val := Value.ref 192 }, { hash := PyData.keyHash P (Str.ofString "_law_takes"), key := Value.str (Str.ofString "_law_takes") 713, val := Value.ref 197 }, { hash := PyData.keyHash P (Str.ofString "_law_other"), key := Value.str (Str.ofString "_law_other") 723, val := Value.ref 204 }, { hash := PyData.keyHash P (Str.ofString "law"), key := Value.str (Str.ofString "law") 729, val := Value.ref 209 }] 38 }
noncomputable def o32 : Obj := { cls := Value.type "tuple", data := Data.seq #[] }
noncomputable def o34 : Obj := { cls := Value.type "tuple", data := Data.seq #[Value.str (Str.ofString "k") 285] }
noncomputable def o35 : Obj := { cls := Value.type "tuple", data := Data.seq #[] }
noncomputable def o37 : Obj := { cls := Value.type "code", data := Data.fields #[Value.str (Str.ofString "_wall") 282, Value.str (Str.ofString "_wall") 283, Value.str (Str.ofString "/claim/cut.py") 284, Value.int 2 0, Value.int 1 0, Value.int 0 0, Value.int 0 0, Value.int 3 0, Value.ref 32, Value.bool true, Value.int 276 0, Value.ref 33, Value.none, Value.ref 34, Value.ref 35, Value.ref 36, Value.int 286 0, Value.int 2 0, Value.str (Str.ofString "/claim/cut.py") 287] }
noncomputable def o38 : Obj := by
  refine' (fun (o : Obj) (_ : o = fnO 1 (Value.none) (Value.none) (Value.str (Str.ofString "__main__") 164) (Value.ref 37)) => o) _ ?h
  case h => dsimp only [fnO, dAt, PySem.Challenge.pw_ku0026_01, List.drop]; exact rfl
noncomputable def o39 : Obj := { cls := Value.type "tuple", data := Data.seq #[] }
noncomputable def o41 : Obj := { cls := Value.type "tuple", data := Data.seq #[Value.str (Str.ofString "a") 296, Value.str (Str.ofString "b") 297, Value.str (Str.ofString "n") 298, Value.str (Str.ofString "pad") 299, Value.str (Str.ofString "half_n") 300, Value.str (Str.ofString "mask") 301, Value.str (Str.ofString "b1") 302, Value.str (Str.ofString "b2") 303, Value.str (Str.ofString "q1") 304, Value.str (Str.ofString "r") 305, Value.str (Str.ofString "q2") 306] }
noncomputable def o42 : Obj := { cls := Value.type "tuple", data := Data.seq #[] }
noncomputable def o44 : Obj := { cls := Value.type "code", data := Data.fields #[Value.str (Str.ofString "_div2n1n") 293, Value.str (Str.ofString "_div2n1n") 294, Value.str (Str.ofString "/claim/cut.py") 295, Value.int 7 0, Value.int 3 0, Value.int 0 0, Value.int 0 0, Value.int 3 0, Value.ref 39, Value.bool true, Value.int 276 0, Value.ref 40, Value.none, Value.ref 41, Value.ref 42, Value.ref 43, Value.int 307 0, Value.int 7 0, Value.str (Str.ofString "/claim/cut.py") 308] }
noncomputable def o45 : Obj := by
  refine' (fun (o : Obj) (_ : o = fnO 4 (Value.none) (Value.none) (Value.str (Str.ofString "cpy313._pylong") 289) (Value.ref 44)) => o) _ ?h
  case h => dsimp only [fnO, dAt, PySem.Challenge.pw_ku0026_01, List.drop]; exact rfl
noncomputable def o46 : Obj := { cls := Value.type "tuple", data := Data.seq #[] }
noncomputable def o48 : Obj := { cls := Value.type "tuple", data := Data.seq #[Value.str (Str.ofString "a12") 313, Value.str (Str.ofString "a3") 314, Value.str (Str.ofString "b") 315, Value.str (Str.ofString "b1") 316, Value.str (Str.ofString "b2") 317, Value.str (Str.ofString "n") 318, Value.str (Str.ofString "q") 319, Value.str (Str.ofString "r") 320] }
noncomputable def o49 : Obj := { cls := Value.type "tuple", data := Data.seq #[] }
noncomputable def o51 : Obj := { cls := Value.type "code", data := Data.fields #[Value.str (Str.ofString "_div3n2n") 310, Value.str (Str.ofString "_div3n2n") 311, Value.str (Str.ofString "/claim/cut.py") 312, Value.int 23 0, Value.int 6 0, Value.int 0 0, Value.int 0 0, Value.int 3 0, Value.ref 46, Value.bool true, Value.int 276 0, Value.ref 47, Value.none, Value.ref 48, Value.ref 49, Value.ref 50, Value.int 321 0, Value.int 23 0, Value.str (Str.ofString "/claim/cut.py") 322] }
noncomputable def o52 : Obj := by
  refine' (fun (o : Obj) (_ : o = fnO 5 (Value.none) (Value.none) (Value.str (Str.ofString "cpy313._pylong") 289) (Value.ref 51)) => o) _ ?h
  case h => dsimp only [fnO, dAt, PySem.Challenge.pw_ku0026_01, List.drop]; exact rfl
noncomputable def o53 : Obj := { cls := Value.type "tuple", data := Data.seq #[] }
noncomputable def o55 : Obj := { cls := Value.type "tuple", data := Data.seq #[Value.str (Str.ofString "a") 327, Value.str (Str.ofString "n") 328] }
noncomputable def o56 : Obj := { cls := Value.type "tuple", data := Data.seq #[Value.str (Str.ofString "n") 329, Value.str (Str.ofString "a_digits") 330, Value.str (Str.ofString "inner") 331] }
noncomputable def o58 : Obj := { cls := Value.type "code", data := Data.fields #[Value.str (Str.ofString "_int2digits") 324, Value.str (Str.ofString "_int2digits") 325, Value.str (Str.ofString "/claim/cut.py") 326, Value.int 33 0, Value.int 2 0, Value.int 0 0, Value.int 0 0, Value.int 3 0, Value.ref 53, Value.bool true, Value.int 276 0, Value.ref 54, Value.none, Value.ref 55, Value.ref 56, Value.ref 57, Value.int 332 0, Value.int 33 0, Value.str (Str.ofString "/claim/cut.py") 333] }
noncomputable def o59 : Obj := by
  refine' (fun (o : Obj) (_ : o = fnO 6 (Value.none) (Value.none) (Value.str (Str.ofString "cpy313._pylong") 289) (Value.ref 58)) => o) _ ?h
  case h => dsimp only [fnO, dAt, PySem.Challenge.pw_ku0026_01, List.drop]; exact rfl
noncomputable def o60 : Obj := { cls := Value.type "tuple", data := Data.seq #[] }
noncomputable def o62 : Obj := { cls := Value.type "tuple", data := Data.seq #[Value.str (Str.ofString "digits") 338, Value.str (Str.ofString "n") 339] }
noncomputable def o63 : Obj := { cls := Value.type "tuple", data := Data.seq #[Value.str (Str.ofString "digits") 340, Value.str (Str.ofString "n") 341, Value.str (Str.ofString "inner") 342] }
noncomputable def o65 : Obj := { cls := Value.type "code", data := Data.fields #[Value.str (Str.ofString "_digits2int") 335, Value.str (Str.ofString "_digits2int") 336, Value.str (Str.ofString "/claim/cut.py") 337, Value.int 49 0, Value.int 2 0, Value.int 0 0, Value.int 0 0, Value.int 3 0, Value.ref 60, Value.bool true, Value.int 276 0, Value.ref 61, Value.none, Value.ref 62, Value.ref 63, Value.ref 64, Value.int 343 0, Value.int 49 0, Value.str (Str.ofString "/claim/cut.py") 344] }
noncomputable def o66 : Obj := by
  refine' (fun (o : Obj) (_ : o = fnO 7 (Value.none) (Value.none) (Value.str (Str.ofString "cpy313._pylong") 289) (Value.ref 65)) => o) _ ?h
  case h => dsimp only [fnO, dAt, PySem.Challenge.pw_ku0026_01, List.drop]; exact rfl
noncomputable def o67 : Obj := { cls := Value.type "tuple", data := Data.seq #[] }
noncomputable def o69 : Obj := { cls := Value.type "tuple", data := Data.seq #[Value.str (Str.ofString "a") 349, Value.str (Str.ofString "b") 350, Value.str (Str.ofString "n") 351, Value.str (Str.ofString "a_digits") 352, Value.str (Str.ofString "r") 353, Value.str (Str.ofString "q_digits") 354, Value.str (Str.ofString "a_digit") 355, Value.str (Str.ofString "q_digit") 356, Value.str (Str.ofString "q") 357] }
noncomputable def o70 : Obj := { cls := Value.type "tuple", data := Data.seq #[] }
noncomputable def o72 : Obj := { cls := Value.type "code", data := Data.fields #[Value.str (Str.ofString "_divmod_pos") 346, Value.str (Str.ofString "_divmod_pos") 347, Value.str (Str.ofString "/claim/cut.py") 348, Value.int 58 0, Value.int 2 0, Value.int 0 0, Value.int 0 0, Value.int 3 0, Value.ref 67, Value.bool true, Value.int 276 0, Value.ref 68, Value.none, Value.ref 69, Value.ref 70, Value.ref 71, Value.int 358 0, Value.int 58 0, Value.str (Str.ofString "/claim/cut.py") 359] }
noncomputable def o73 : Obj := by
  refine' (fun (o : Obj) (_ : o = fnO 8 (Value.none) (Value.none) (Value.str (Str.ofString "cpy313._pylong") 289) (Value.ref 72)) => o) _ ?h
  case h => dsimp only [fnO, dAt, PySem.Challenge.pw_ku0026_01, List.drop]; exact rfl
noncomputable def o74 : Obj := { cls := Value.type "tuple", data := Data.seq #[] }
noncomputable def o76 : Obj := { cls := Value.type "tuple", data := Data.seq #[Value.str (Str.ofString "a") 364, Value.str (Str.ofString "b") 365, Value.str (Str.ofString "q") 366, Value.str (Str.ofString "r") 367] }
noncomputable def o77 : Obj := { cls := Value.type "tuple", data := Data.seq #[] }
noncomputable def o79 : Obj := { cls := Value.type "code", data := Data.fields #[Value.str (Str.ofString "int_divmod") 361, Value.str (Str.ofString "int_divmod") 362, Value.str (Str.ofString "/claim/cut.py") 363, Value.int 69 0, Value.int 2 0, Value.int 0 0, Value.int 0 0, Value.int 3 0, Value.ref 74, Value.bool true, Value.int 276 0, Value.ref 75, Value.none, Value.ref 76, Value.ref 77, Value.ref 78, Value.int 368 0, Value.int 69 0, Value.str (Str.ofString "/claim/cut.py") 369] }
noncomputable def o80 : Obj := by
  refine' (fun (o : Obj) (_ : o = fnO 9 (Value.none) (Value.none) (Value.str (Str.ofString "cpy313._pylong") 289) (Value.ref 79)) => o) _ ?h
  case h => dsimp only [fnO, dAt, PySem.Challenge.pw_ku0026_01, List.drop]; exact rfl
noncomputable def o81 : Obj := { cls := Value.type "tuple", data := Data.seq #[Value.type "bytes", Value.type "bytearray"] }
noncomputable def o82 : Obj := { cls := Value.type "tuple", data := Data.seq #[] }
noncomputable def o84 : Obj := { cls := Value.type "tuple", data := Data.seq #[Value.str (Str.ofString "s") 377] }
noncomputable def o85 : Obj := { cls := Value.type "tuple", data := Data.seq #[] }
noncomputable def o87 : Obj := { cls := Value.type "code", data := Data.fields #[Value.str (Str.ofString "_bytes_from_decode_data") 374, Value.str (Str.ofString "_bytes_from_decode_data") 375, Value.str (Str.ofString "/claim/cut.py") 376, Value.int 82 0, Value.int 1 0, Value.int 0 0, Value.int 0 0, Value.int 3 0, Value.ref 82, Value.bool true, Value.int 276 0, Value.ref 83, Value.none, Value.ref 84, Value.ref 85, Value.ref 86, Value.int 378 0, Value.int 82 0, Value.str (Str.ofString "/claim/cut.py") 379] }
noncomputable def o88 : Obj := by
  refine' (fun (o : Obj) (_ : o = fnO 12 (Value.none) (Value.none) (Value.str (Str.ofString "cpy313.base64") 371) (Value.ref 87)) => o) _ ?h
  case h => dsimp only [fnO, dAt, PySem.Challenge.pw_ku0026_01, List.drop]; exact rfl
noncomputable def o89 : Obj := { cls := Value.type "tuple", data := Data.seq #[Value.type "ValueError"] }
noncomputable def o96 : Obj := { cls := Value.type "tuple", data := Data.seq #[] }
noncomputable def o97 (P : Params) : Obj := { cls := Value.type "dict", data := Data.dict #[{ hash := PyData.keyHash P (Str.ofString "__module__"), key := Value.str (Str.ofString "__module__") 390, val := Value.str (Str.ofString "binascii") 381 }, { hash := PyData.keyHash P (Str.ofString "__firstlineno__"), key := Value.str (Str.ofString "__firstlineno__") 394, val := Value.int 95 393 }, { hash := PyData.keyHash P (Str.ofString "__static_attributes__"), key := Value.str (Str.ofString "__static_attributes__") 395, val := Value.ref 96 }, { hash := PyData.keyHash P (Str.ofString "__weakref__"), key := Value.str (Str.ofString "__weakref__") 397, val := Value.ref 99 }, { hash := PyData.keyHash P (Str.ofString "__doc__"), key := Value.str (Str.ofString "__doc__") 398, val := Value.none }] 3 }
noncomputable def o98 : Obj := { cls := Value.type "type", data := Data.cls { name := Str.ofString "Error", bases := [Value.type "ValueError"], mro := [Value.ref 98, Value.type "ValueError", Value.type "Exception", Value.type "BaseException", Value.type "object"], ns := 97, qualname := Str.ofString "Error" }, slots := #[some (Value.ref 89), none, some (Value.str (Str.ofString "Error") 383), some (Value.str (Str.ofString "Error") 391), some (Value.builtin "ValueError.__new__"), some (Value.bool true)] }
noncomputable def o99 : Obj := { cls := Value.type "getset_descriptor", data := Data.fields #[Value.str (Str.ofString "__weakref__") 396, Value.ref 98, Value.builtin "ExceptionGroup.__weakref__", Value.none] }
noncomputable def o102 : Obj := { cls := Value.type "tuple", data := Data.seq #[] }
noncomputable def o104 : Obj := { cls := Value.type "tuple", data := Data.seq #[Value.str (Str.ofString "data") 404, Value.str (Str.ofString "t") 405] }
noncomputable def o105 : Obj := { cls := Value.type "tuple", data := Data.seq #[] }
noncomputable def o107 : Obj := { cls := Value.type "code", data := Data.fields #[Value.str (Str.ofString "_ascii_buffer") 401, Value.str (Str.ofString "_ascii_buffer") 402, Value.str (Str.ofString "/claim/cut.py") 403, Value.int 97 0, Value.int 1 0, Value.int 0 0, Value.int 0 0, Value.int 3 0, Value.ref 102, Value.bool true, Value.int 276 0, Value.ref 103, Value.none, Value.ref 104, Value.ref 105, Value.ref 106, Value.int 406 0, Value.int 97 0, Value.str (Str.ofString "/claim/cut.py") 407] }
noncomputable def o108 : Obj := by
  refine' (fun (o : Obj) (_ : o = fnO 15 (Value.none) (Value.none) (Value.str (Str.ofString "binascii") 381) (Value.ref 107)) => o) _ ?h
  case h => dsimp only [fnO, dAt, PySem.Challenge.pw_ku0026_01, List.drop]; exact rfl
noncomputable def o109 : Obj := { cls := Value.type "tuple", data := Data.seq #[] }
noncomputable def o111 : Obj := { cls := Value.type "tuple", data := Data.seq #[Value.str (Str.ofString "data") 412, Value.str (Str.ofString "t") 413] }
noncomputable def o112 : Obj := { cls := Value.type "tuple", data := Data.seq #[] }
noncomputable def o114 : Obj := { cls := Value.type "code", data := Data.fields #[Value.str (Str.ofString "_buffer") 409, Value.str (Str.ofString "_buffer") 410, Value.str (Str.ofString "/claim/cut.py") 411, Value.int 108 0, Value.int 1 0, Value.int 0 0, Value.int 0 0, Value.int 3 0, Value.ref 109, Value.bool true, Value.int 276 0, Value.ref 110, Value.none, Value.ref 111, Value.ref 112, Value.ref 113, Value.int 414 0, Value.int 108 0, Value.str (Str.ofString "/claim/cut.py") 415] }
noncomputable def o115 : Obj := by
  refine' (fun (o : Obj) (_ : o = fnO 16 (Value.none) (Value.none) (Value.str (Str.ofString "binascii") 381) (Value.ref 114)) => o) _ ?h
  case h => dsimp only [fnO, dAt, PySem.Challenge.pw_ku0026_01, List.drop]; exact rfl
noncomputable def o116 : Obj := { cls := Value.type "tuple", data := Data.seq #[] }
noncomputable def o118 : Obj := { cls := Value.type "tuple", data := Data.seq #[Value.str (Str.ofString "x") 420, Value.str (Str.ofString "t") 421] }
noncomputable def o119 : Obj := { cls := Value.type "tuple", data := Data.seq #[] }
noncomputable def o121 : Obj := { cls := Value.type "code", data := Data.fields #[Value.str (Str.ofString "_truth") 417, Value.str (Str.ofString "_truth") 418, Value.str (Str.ofString "/claim/cut.py") 419, Value.int 115 0, Value.int 1 0, Value.int 0 0, Value.int 0 0, Value.int 3 0, Value.ref 116, Value.bool true, Value.int 276 0, Value.ref 117, Value.none, Value.ref 118, Value.ref 119, Value.ref 120, Value.int 422 0, Value.int 115 0, Value.str (Str.ofString "/claim/cut.py") 423] }
noncomputable def o122 : Obj := by
  refine' (fun (o : Obj) (_ : o = fnO 17 (Value.none) (Value.none) (Value.str (Str.ofString "binascii") 381) (Value.ref 121)) => o) _ ?h
  case h => dsimp only [fnO, dAt, PySem.Challenge.pw_ku0026_01, List.drop]; exact rfl
noncomputable def o123 : Obj := { cls := Value.type "tuple", data := Data.seq #[] }
noncomputable def o125 : Obj := { cls := Value.type "tuple", data := Data.seq #[Value.str (Str.ofString "c") 430] }
noncomputable def o126 : Obj := { cls := Value.type "tuple", data := Data.seq #[] }
noncomputable def o128 : Obj := { cls := Value.type "code", data := Data.fields #[Value.str (Str.ofString "_b64_value") 427, Value.str (Str.ofString "_b64_value") 428, Value.str (Str.ofString "/claim/cut.py") 429, Value.int 121 0, Value.int 1 0, Value.int 0 0, Value.int 0 0, Value.int 3 0, Value.ref 123, Value.bool true, Value.int 276 0, Value.ref 124, Value.none, Value.ref 125, Value.ref 126, Value.ref 127, Value.int 431 0, Value.int 121 0, Value.str (Str.ofString "/claim/cut.py") 432] }
noncomputable def o129 : Obj := by
  refine' (fun (o : Obj) (_ : o = fnO 19 (Value.none) (Value.none) (Value.str (Str.ofString "binascii") 381) (Value.ref 128)) => o) _ ?h
  case h => dsimp only [fnO, dAt, PySem.Challenge.pw_ku0026_01, List.drop]; exact rfl
noncomputable def o130 (P : Params) : Obj := { cls := Value.type "dict", data := Data.dict #[{ hash := PyData.keyHash P (Str.ofString "strict_mode"), key := Value.str (Str.ofString "strict_mode") 434, val := Value.bool false }] 1 }
noncomputable def o131 : Obj := { cls := Value.type "tuple", data := Data.seq #[] }
noncomputable def o133 : Obj := { cls := Value.type "tuple", data := Data.seq #[Value.str (Str.ofString "data") 438, Value.str (Str.ofString "strict_mode") 439, Value.str (Str.ofString "ascii_data") 440, Value.str (Str.ofString "out") 441, Value.str (Str.ofString "quad_pos") 442, Value.str (Str.ofString "leftchar") 443, Value.str (Str.ofString "pads") 444, Value.str (Str.ofString "i") 445, Value.str (Str.ofString "this_ch") 446] }
noncomputable def o134 : Obj := { cls := Value.type "tuple", data := Data.seq #[] }
noncomputable def o136 : Obj := { cls := Value.type "code", data := Data.fields #[Value.str (Str.ofString "a2b_base64") 435, Value.str (Str.ofString "a2b_base64") 436, Value.str (Str.ofString "/claim/cut.py") 437, Value.int 133 0, Value.int 1 0, Value.int 1 0, Value.int 1 0, Value.int 3 0, Value.ref 131, Value.bool true, Value.int 276 0, Value.ref 132, Value.none, Value.ref 133, Value.ref 134, Value.ref 135, Value.int 447 0, Value.int 133 0, Value.str (Str.ofString "/claim/cut.py") 448] }
noncomputable def o137 : Obj := by
  refine' (fun (o : Obj) (_ : o = fnO 20 (Value.none) (Value.ref 130) (Value.str (Str.ofString "binascii") 381) (Value.ref 136)) => o) _ ?h
  case h => dsimp only [fnO, dAt, PySem.Challenge.pw_ku0026_01, List.drop]; exact rfl
noncomputable def o138 (P : Params) : Obj := { cls := Value.type "dict", data := Data.dict #[{ hash := PyData.keyHash P (Str.ofString "newline"), key := Value.str (Str.ofString "newline") 450, val := Value.bool true }] 1 }
noncomputable def o139 : Obj := { cls := Value.type "tuple", data := Data.seq #[] }
noncomputable def o141 : Obj := { cls := Value.type "tuple", data := Data.seq #[Value.str (Str.ofString "data") 454, Value.str (Str.ofString "newline") 455, Value.str (Str.ofString "bin_data") 456, Value.str (Str.ofString "out") 457, Value.str (Str.ofString "leftbits") 458, Value.str (Str.ofString "leftchar") 459, Value.str (Str.ofString "b") 460] }
noncomputable def o142 : Obj := { cls := Value.type "tuple", data := Data.seq #[] }
noncomputable def o144 : Obj := { cls := Value.type "code", data := Data.fields #[Value.str (Str.ofString "b2a_base64") 451, Value.str (Str.ofString "b2a_base64") 452, Value.str (Str.ofString "/claim/cut.py") 453, Value.int 187 0, Value.int 1 0, Value.int 1 0, Value.int 1 0, Value.int 3 0, Value.ref 139, Value.bool true, Value.int 276 0, Value.ref 140, Value.none, Value.ref 141, Value.ref 142, Value.ref 143, Value.int 461 0, Value.int 187 0, Value.str (Str.ofString "/claim/cut.py") 462] }
noncomputable def o145 : Obj := by
  refine' (fun (o : Obj) (_ : o = fnO 21 (Value.none) (Value.ref 138) (Value.str (Str.ofString "binascii") 381) (Value.ref 144)) => o) _ ?h
  case h => dsimp only [fnO, dAt, PySem.Challenge.pw_ku0026_01, List.drop]; exact rfl
noncomputable def o146 : Obj := { cls := Value.type "tuple", data := Data.seq #[Value.none] }
noncomputable def o147 : Obj := { cls := Value.type "tuple", data := Data.seq #[] }
noncomputable def o149 : Obj := { cls := Value.type "tuple", data := Data.seq #[Value.str (Str.ofString "s") 469, Value.str (Str.ofString "altchars") 470, Value.str (Str.ofString "encoded") 471] }
noncomputable def o150 : Obj := { cls := Value.type "tuple", data := Data.seq #[] }
noncomputable def o152 : Obj := { cls := Value.type "code", data := Data.fields #[Value.str (Str.ofString "b64encode") 466, Value.str (Str.ofString "b64encode") 467, Value.str (Str.ofString "/claim/cut.py") 468, Value.int 210 0, Value.int 2 0, Value.int 0 0, Value.int 0 0, Value.int 3 0, Value.ref 147, Value.bool true, Value.int 276 0, Value.ref 148, Value.none, Value.ref 149, Value.ref 150, Value.ref 151, Value.int 472 0, Value.int 210 0, Value.str (Str.ofString "/claim/cut.py") 473] }
noncomputable def o153 : Obj := by
  refine' (fun (o : Obj) (_ : o = fnO 23 (Value.ref 146) (Value.none) (Value.str (Str.ofString "cpy313.base64") 464) (Value.ref 152)) => o) _ ?h
  case h => dsimp only [fnO, dAt, PySem.Challenge.pw_ku0026_01, List.drop]; exact rfl
noncomputable def o154 : Obj := { cls := Value.type "tuple", data := Data.seq #[Value.none, Value.bool false] }
noncomputable def o155 : Obj := { cls := Value.type "tuple", data := Data.seq #[] }
noncomputable def o157 : Obj := { cls := Value.type "tuple", data := Data.seq #[Value.str (Str.ofString "s") 478, Value.str (Str.ofString "altchars") 479, Value.str (Str.ofString "validate") 480] }
noncomputable def o158 : Obj := { cls := Value.type "tuple", data := Data.seq #[] }
noncomputable def o160 : Obj := { cls := Value.type "code", data := Data.fields #[Value.str (Str.ofString "b64decode") 475, Value.str (Str.ofString "b64decode") 476, Value.str (Str.ofString "/claim/cut.py") 477, Value.int 216 0, Value.int 3 0, Value.int 0 0, Value.int 0 0, Value.int 3 0, Value.ref 155, Value.bool true, Value.int 276 0, Value.ref 156, Value.none, Value.ref 157, Value.ref 158, Value.ref 159, Value.int 481 0, Value.int 216 0, Value.str (Str.ofString "/claim/cut.py") 482] }
noncomputable def o161 : Obj := by
  refine' (fun (o : Obj) (_ : o = fnO 24 (Value.ref 154) (Value.none) (Value.str (Str.ofString "cpy313.base64") 464) (Value.ref 160)) => o) _ ?h
  case h => dsimp only [fnO, dAt, PySem.Challenge.pw_ku0026_01, List.drop]; exact rfl
noncomputable def o165 : Obj := { cls := Value.type "tuple", data := Data.seq #[Value.int 14 0, Value.int 14 0, Value.int 4 0, Value.int 1 0, Value.int 1 0, Value.int 9 0, Value.int 0 0, Value.int 64 0, Value.int 0 0, Value.int 1342177280 0, Value.int 0 0, Value.int 0 0, Value.int 0 0, Value.int 0 0, Value.int 0 0, Value.int 17 0, Value.int 0 0, Value.int 13 0, Value.int 11 0, Value.int 9 0, Value.int 0 0, Value.int 64 0, Value.int 0 0, Value.int 1342177280 0, Value.int 0 0, Value.int 0 0, Value.int 0 0, Value.int 0 0, Value.int 0 0, Value.int 17 0, Value.int 1 0, Value.int 1 0] }
noncomputable def o166 : Obj := { cls := Value.type "re.Pattern", data := Data.fields #[Value.str (Str.ofString "([&~|])") 485, Value.int 32 520, Value.int 1 0, Value.none, Value.none, Value.ref 165, Value.int 0 0] }
noncomputable def o168 : Obj := { cls := Value.type "dict", data := Data.dict #[{ hash := 40, key := Value.int 40 525, val := Value.str (Str.ofString "\\(") 529 }, { hash := 41, key := Value.int 41 531, val := Value.str (Str.ofString "\\)") 535 }, { hash := 91, key := Value.int 91 537, val := Value.str (Str.ofString "\\[") 541 }, { hash := 93, key := Value.int 93 543, val := Value.str (Str.ofString "\\]") 547 }, { hash := 123, key := Value.int 123 549, val := Value.str (Str.ofString "\\{") 553 }, { hash := 125, key := Value.int 125 555, val := Value.str (Str.ofString "\\}") 559 }, { hash := 63, key := Value.int 63 561, val := Value.str (Str.ofString "\\?") 565 }, { hash := 42, key := Value.int 42 567, val := Value.str (Str.ofString "\\*") 571 }, { hash := 43, key := Value.int 43 573, val := Value.str (Str.ofString "\\+") 577 }, { hash := 45, key := Value.int 45 579, val := Value.str (Str.ofString "\\-") 583 }, { hash := 124, key := Value.int 124 585, val := Value.str (Str.ofString "\\|") 589 }, { hash := 94, key := Value.int 94 591, val := Value.str (Str.ofString "\\^") 595 }, { hash := 36, key := Value.int 36 597, val := Value.str (Str.ofString "\\$") 601 }, { hash := 92, key := Value.int 92 603, val := Value.str (Str.ofString "\\\\") 607 }, { hash := 46, key := Value.int 46 609, val := Value.str (Str.ofString "\\.") 613 }, { hash := 38, key := Value.int 38 615, val := Value.str (Str.ofString "\\&") 619 }, { hash := 126, key := Value.int 126 621, val := Value.str (Str.ofString "\\~") 625 }, { hash := 35, key := Value.int 35 627, val := Value.str (Str.ofString "\\#") 631 }, { hash := 32, key := Value.int 32 633, val := Value.str (Str.ofString "\\ ") 637 }, { hash := 9, key := Value.int 9 639, val := Value.str (Str.ofString "\\\t") 643 }, { hash := 10, key := Value.int 10 645, val := Value.str (Str.ofString "\\\n") 649 }, { hash := 13, key := Value.int 13 651, val := Value.str (Str.ofString "\\\x0d") 655 }, { hash := 11, key := Value.int 11 657, val := Value.str (Str.ofString "\\\x0b") 661 }, { hash := 12, key := Value.int 12 663, val := Value.str (Str.ofString "\\\x0c") 667 }] 24 }
noncomputable def o172 : Obj := { cls := Value.type "tuple", data := Data.seq #[] }
noncomputable def o174 : Obj := { cls := Value.type "tuple", data := Data.seq #[Value.str (Str.ofString "pattern") 673] }
noncomputable def o175 : Obj := { cls := Value.type "tuple", data := Data.seq #[] }
noncomputable def o177 : Obj := { cls := Value.type "code", data := Data.fields #[Value.str (Str.ofString "escape") 670, Value.str (Str.ofString "escape") 671, Value.str (Str.ofString "/claim/cut.py") 672, Value.int 226 0, Value.int 1 0, Value.int 0 0, Value.int 0 0, Value.int 3 0, Value.ref 172, Value.bool true, Value.int 276 0, Value.ref 173, Value.none, Value.ref 174, Value.ref 175, Value.ref 176, Value.int 674 0, Value.int 226 0, Value.str (Str.ofString "/claim/cut.py") 675] }
noncomputable def o178 : Obj := by
  refine' (fun (o : Obj) (_ : o = fnO 28 (Value.none) (Value.none) (Value.str (Str.ofString "re") 522) (Value.ref 177)) => o) _ ?h
  case h => dsimp only [fnO, dAt, PySem.Challenge.pw_ku0026_01, List.drop]; exact rfl
noncomputable def o179 : Obj := { cls := Value.type "tuple", data := Data.seq #[] }
noncomputable def o181 : Obj := { cls := Value.type "tuple", data := Data.seq #[Value.str (Str.ofString "pat") 682, Value.str (Str.ofString "STAR") 683, Value.str (Str.ofString "QUESTION_MARK") 684, Value.str (Str.ofString "res") 685, Value.str (Str.ofString "add") 686, Value.str (Str.ofString "i") 687, Value.str (Str.ofString "n") 688, Value.str (Str.ofString "c") 689, Value.str (Str.ofString "j") 690, Value.str (Str.ofString "stuff") 691, Value.str (Str.ofString "chunks") 692, Value.str (Str.ofString "k") 693, Value.str (Str.ofString "chunk") 694] }
noncomputable def o182 : Obj := { cls := Value.type "tuple", data := Data.seq #[] }
noncomputable def o184 : Obj := { cls := Value.type "code", data := Data.fields #[Value.str (Str.ofString "_translate") 679, Value.str (Str.ofString "_translate") 680, Value.str (Str.ofString "/claim/cut.py") 681, Value.int 233 0, Value.int 3 0, Value.int 0 0, Value.int 0 0, Value.int 3 0, Value.ref 179, Value.bool true, Value.int 276 0, Value.ref 180, Value.none, Value.ref 181, Value.ref 182, Value.ref 183, Value.int 695 0, Value.int 233 0, Value.str (Str.ofString "/claim/cut.py") 696] }
noncomputable def o185 : Obj := by
  refine' (fun (o : Obj) (_ : o = fnO 30 (Value.none) (Value.none) (Value.str (Str.ofString "cpy313.fnmatch") 677) (Value.ref 184)) => o) _ ?h
  case h => dsimp only [fnO, dAt, PySem.Challenge.pw_ku0026_01, List.drop]; exact rfl
noncomputable def o186 : Obj := { cls := Value.type "tuple", data := Data.seq #[] }
noncomputable def o188 : Obj := { cls := Value.type "tuple", data := Data.seq #[Value.str (Str.ofString "number") 703, Value.str (Str.ofString "octets") 704] }
noncomputable def o189 : Obj := { cls := Value.type "tuple", data := Data.seq #[] }
noncomputable def o191 : Obj := { cls := Value.type "code", data := Data.fields #[Value.str (Str.ofString "_law_writing") 700, Value.str (Str.ofString "_law_writing") 701, Value.str (Str.ofString "/claim/cut.py") 702, Value.int 296 0, Value.int 1 0, Value.int 0 0, Value.int 0 0, Value.int 3 0, Value.ref 186, Value.bool true, Value.int 276 0, Value.ref 187, Value.none, Value.ref 188, Value.ref 189, Value.ref 190, Value.int 705 0, Value.int 296 0, Value.str (Str.ofString "/claim/cut.py") 706] }
noncomputable def o192 : Obj := by
  refine' (fun (o : Obj) (_ : o = fnO 32 (Value.none) (Value.none) (Value.str (Str.ofString "law_ku0026_01") 698) (Value.ref 191)) => o) _ ?h
  case h => dsimp only [fnO, dAt, PySem.Challenge.pw_ku0026_01, List.drop]; exact rfl
noncomputable def o193 : Obj := { cls := Value.type "tuple", data := Data.seq #[] }
noncomputable def o196 : Obj := { cls := Value.type "code", data := Data.fields #[Value.str (Str.ofString "_law_takes") 708, Value.str (Str.ofString "_law_takes") 709, Value.str (Str.ofString "/claim/cut.py") 710, Value.int 299 0, Value.int 2 0, Value.int 0 0, Value.int 0 0, Value.int 3 0, Value.ref 193, Value.bool true, Value.int 276 0, Value.ref 194, Value.none, Value.none, Value.none, Value.ref 195, Value.int 711 0, Value.int 299 0, Value.str (Str.ofString "/claim/cut.py") 712] }
noncomputable def o197 : Obj := by
  refine' (fun (o : Obj) (_ : o = fnO 33 (Value.none) (Value.none) (Value.str (Str.ofString "law_ku0026_01") 698) (Value.ref 196)) => o) _ ?h
  case h => dsimp only [fnO, dAt, PySem.Challenge.pw_ku0026_01, List.drop]; exact rfl
noncomputable def o198 : Obj := { cls := Value.type "tuple", data := Data.seq #[] }
noncomputable def o200 : Obj := { cls := Value.type "tuple", data := Data.seq #[Value.str (Str.ofString "text") 717, Value.str (Str.ofString "turn") 718, Value.str (Str.ofString "kind") 719, Value.str (Str.ofString "turned") 720] }
noncomputable def o201 : Obj := { cls := Value.type "tuple", data := Data.seq #[] }
noncomputable def o203 : Obj := { cls := Value.type "code", data := Data.fields #[Value.str (Str.ofString "_law_other") 714, Value.str (Str.ofString "_law_other") 715, Value.str (Str.ofString "/claim/cut.py") 716, Value.int 307 0, Value.int 3 0, Value.int 0 0, Value.int 0 0, Value.int 3 0, Value.ref 198, Value.bool true, Value.int 276 0, Value.ref 199, Value.none, Value.ref 200, Value.ref 201, Value.ref 202, Value.int 721 0, Value.int 307 0, Value.str (Str.ofString "/claim/cut.py") 722] }
noncomputable def o204 : Obj := by
  refine' (fun (o : Obj) (_ : o = fnO 34 (Value.none) (Value.none) (Value.str (Str.ofString "law_ku0026_01") 698) (Value.ref 203)) => o) _ ?h
  case h => dsimp only [fnO, dAt, PySem.Challenge.pw_ku0026_01, List.drop]; exact rfl
noncomputable def o205 : Obj := { cls := Value.type "tuple", data := Data.seq #[] }
noncomputable def o208 : Obj := { cls := Value.type "code", data := Data.fields #[Value.str (Str.ofString "law") 724, Value.str (Str.ofString "law") 725, Value.str (Str.ofString "/claim/cut.py") 726, Value.int 310 0, Value.int 1 0, Value.int 0 0, Value.int 0 0, Value.int 3 0, Value.ref 205, Value.bool true, Value.int 276 0, Value.ref 206, Value.none, Value.none, Value.none, Value.ref 207, Value.int 727 0, Value.int 310 0, Value.str (Str.ofString "/claim/cut.py") 728] }
noncomputable def o209 : Obj := by
  refine' (fun (o : Obj) (_ : o = fnO 35 (Value.none) (Value.none) (Value.str (Str.ofString "law_ku0026_01") 698) (Value.ref 208)) => o) _ ?h
  case h => dsimp only [fnO, dAt, PySem.Challenge.pw_ku0026_01, List.drop]; exact rfl
noncomputable def dLaw : DefRec := by
  refine' (fun (o : DefRec) (_ : o = dAt 35) => o) _ ?h
  case h => dsimp only [dAt, PySem.Challenge.pw_ku0026_01, List.drop]; exact rfl
end LH
noncomputable def hd.heap_39 : Params → Frag := fun P => (nat_lit 2, LH.o2 P) :: (nat_lit 3, LH.o3 P) :: (nat_lit 32, LH.o32) :: (nat_lit 34, LH.o34) :: (nat_lit 35, LH.o35) :: (nat_lit 37, LH.o37) :: (nat_lit 38, LH.o38) :: (nat_lit 39, LH.o39) :: (nat_lit 41, LH.o41) :: (nat_lit 42, LH.o42) :: (nat_lit 44, LH.o44) :: (nat_lit 45, LH.o45) :: (nat_lit 46, LH.o46) :: (nat_lit 48, LH.o48) :: (nat_lit 49, LH.o49) :: (nat_lit 51, LH.o51) :: (nat_lit 52, LH.o52) :: (nat_lit 53, LH.o53) :: (nat_lit 55, LH.o55) :: (nat_lit 56, LH.o56) :: (nat_lit 58, LH.o58) :: (nat_lit 59, LH.o59) :: (nat_lit 60, LH.o60) :: (nat_lit 62, LH.o62) :: (nat_lit 63, LH.o63) :: (nat_lit 65, LH.o65) :: (nat_lit 66, LH.o66) :: (nat_lit 67, LH.o67) :: (nat_lit 69, LH.o69) :: (nat_lit 70, LH.o70) :: (nat_lit 72, LH.o72) :: (nat_lit 73, LH.o73) :: (nat_lit 74, LH.o74) :: (nat_lit 76, LH.o76) :: (nat_lit 77, LH.o77) :: (nat_lit 79, LH.o79) :: (nat_lit 80, LH.o80) :: (nat_lit 81, LH.o81) :: (nat_lit 82, LH.o82) :: (nat_lit 84, LH.o84) :: (nat_lit 85, LH.o85) :: (nat_lit 87, LH.o87) :: (nat_lit 88, LH.o88) :: (nat_lit 89, LH.o89) :: (nat_lit 96, LH.o96) :: (nat_lit 97, LH.o97 P) :: (nat_lit 98, LH.o98) :: (nat_lit 99, LH.o99) :: (nat_lit 102, LH.o102) :: (nat_lit 104, LH.o104) :: (nat_lit 105, LH.o105) :: (nat_lit 107, LH.o107) :: (nat_lit 108, LH.o108) :: (nat_lit 109, LH.o109) :: (nat_lit 111, LH.o111) :: (nat_lit 112, LH.o112) :: (nat_lit 114, LH.o114) :: (nat_lit 115, LH.o115) :: (nat_lit 116, LH.o116) :: (nat_lit 118, LH.o118) :: (nat_lit 119, LH.o119) :: (nat_lit 121, LH.o121) :: (nat_lit 122, LH.o122) :: (nat_lit 123, LH.o123) :: (nat_lit 125, LH.o125) :: (nat_lit 126, LH.o126) :: (nat_lit 128, LH.o128) :: (nat_lit 129, LH.o129) :: (nat_lit 130, LH.o130 P) :: (nat_lit 131, LH.o131) :: (nat_lit 133, LH.o133) :: (nat_lit 134, LH.o134) :: (nat_lit 136, LH.o136) :: (nat_lit 137, LH.o137) :: (nat_lit 138, LH.o138 P) :: (nat_lit 139, LH.o139) :: (nat_lit 141, LH.o141) :: (nat_lit 142, LH.o142) :: (nat_lit 144, LH.o144) :: (nat_lit 145, LH.o145) :: (nat_lit 146, LH.o146) :: (nat_lit 147, LH.o147) :: (nat_lit 149, LH.o149) :: (nat_lit 150, LH.o150) :: (nat_lit 152, LH.o152) :: (nat_lit 153, LH.o153) :: (nat_lit 154, LH.o154) :: (nat_lit 155, LH.o155) :: (nat_lit 157, LH.o157) :: (nat_lit 158, LH.o158) :: (nat_lit 160, LH.o160) :: (nat_lit 161, LH.o161) :: (nat_lit 165, LH.o165) :: (nat_lit 166, LH.o166) :: (nat_lit 168, LH.o168) :: (nat_lit 172, LH.o172) :: (nat_lit 174, LH.o174) :: (nat_lit 175, LH.o175) :: (nat_lit 177, LH.o177) :: (nat_lit 178, LH.o178) :: (nat_lit 179, LH.o179) :: (nat_lit 181, LH.o181) :: (nat_lit 182, LH.o182) :: (nat_lit 184, LH.o184) :: (nat_lit 185, LH.o185) :: (nat_lit 186, LH.o186) :: (nat_lit 188, LH.o188) :: (nat_lit 189, LH.o189) :: (nat_lit 191, LH.o191) :: (nat_lit 192, LH.o192) :: (nat_lit 193, LH.o193) :: (nat_lit 196, LH.o196) :: (nat_lit 197, LH.o197) :: (nat_lit 198, LH.o198) :: (nat_lit 200, LH.o200) :: (nat_lit 201, LH.o201) :: (nat_lit 203, LH.o203) :: (nat_lit 204, LH.o204) :: (nat_lit 205, LH.o205) :: (nat_lit 208, LH.o208) :: (nat_lit 209, LH.o209) :: []
noncomputable def hd.asK : List Addr := [2, 3, 32, 34, 35, 37, 38, 39, 41, 42, 44, 45, 46, 48, 49, 51, 52, 53, 55, 56, 58, 59, 60, 62, 63, 65, 66, 67, 69, 70, 72, 73, 74, 76, 77, 79, 80, 81, 82, 84, 85, 87, 88, 89, 96, 97, 98, 99, 102, 104, 105, 107, 108, 109, 111, 112, 114, 115, 116, 118, 119, 121, 122, 123, 125, 126, 128, 129, 130, 131, 133, 134, 136, 137, 138, 139, 141, 142, 144, 145, 146, 147, 149, 150, 152, 153, 154, 155, 157, 158, 160, 161, 165, 166, 168, 172, 174, 175, 177, 178, 179, 181, 182, 184, 185, 186, 188, 189, 191, 192, 193, 196, 197, 198, 200, 201, 203, 204, 205, 208, 209]
theorem hd.asK_eq (P : Params) : hd.asK = (hd.heap_39 P).map (·.1) := rfl
noncomputable def hd.view_39 : Program := PySem.W.view PySem.Challenge.pw_ku0026_01 [0, 1, 3, 4, 5, 6, 7, 8, 9, 11, 12, 14, 15, 16, 17, 18, 19, 25, 27, 28, 30, 32, 33, 34, 35]
abbrev hd.loose : List Str := [Str.ofString "bytes_types", Str.ofString "a2b_base64", Str.ofString "b2a_base64", Str.ofString "b64encode", Str.ofString "b64decode", Str.ofString "_twin_re_1", Str.ofString "_special_chars_map"]
namespace LH
abbrev row := PySem.Challenge.rw_ku0026_01.row
abbrev H : Hook := kmHook hd.heap_39 hd.asK hd.asK_eq [180, 61, 54]
abbrev Xt (s : Shared) : Bool := xlAt hd.view_39 [] s && recOk row.records s
noncomputable def after (T : World → Nat → Option Value → Nat → Shared → Thread → Option Shared) (w : World) (s₀ : Shared) : Option Shared :=
  match s₀.heap.isNs mainGlobals && s₀.gens.size == 0 with
  | true => (T w s₀.heap.objs.size (s₀.heap.nsMap mainGlobals "__annotations__") 4792 s₀ (topStub pw)).bind fun s₁ => match staticsOk (importedModules pw.main.body) s₀.heap s₁.heap && namesBound pw s₁.heap && gensDone s₁ && laidKept s₀.heap s₁.heap with
      | true => some s₁
      | false => none
  | false => none
noncomputable def LP (w : World) : Prop := (((PySem.W.Fast.tw10274390034422433532 PySem.W.Fast.tw14364793385576792824 (opening pw) w 4792 (start (opening pw)).1 (start (opening pw)).2).bind (fenceModules? pw)).bind
    (after (PySem.W.Fast.tw14082659384304107361 PySem.W.Fast.tw14364793385576792824 pw) w)).map (fun s => (PySem.W.Fast.tw4187177175401517315 hd.view_39 hd.loose (importedModules pw.main.body) Xt true s, H.obs s)) =
  some (openGood hd.view_39 hd.loose, H.val w)
abbrev WW (a b : Bool) (w : World) : World := (w.withFollow "comprehension-iter-twice" b).withFollow "special-get-raises" a
theorem leafFF (w : World) : LP (WW false false w) := by unfold LP; kernel_rfl
theorem leafFT (w : World) : LP (WW false true w) := by unfold LP; kernel_rfl
theorem leafTF (w : World) : LP (WW true false w) := by unfold LP; kernel_rfl
theorem leafTT (w : World) : LP (WW true true w) := by unfold LP; kernel_rfl
theorem all (w : World) : LP w :=
  byRow2 "special-get-raises" (P := LP)
    (byRow2 "comprehension-iter-twice" (P := fun w => LP (w.withFollow "special-get-raises" false)) leafFF leafFT)
    (byRow2 "comprehension-iter-twice" (P := fun w => LP (w.withFollow "special-get-raises" true)) leafTF leafTT) w
theorem left : LeftO row.toRowW.1 hd.view_39 hd.loose Xt H.obs H.val 4792 := by
  intro w
  have h := all w
  unfold LP at h
  rw [← PySem.W.Fast.te10274390034422433532, ← PySem.W.Fast.te14082659384304107361, ← PySem.W.Fast.te14364793385576792824, ← PySem.W.Fast.te4187177175401517315] at h
  exact h
end LH
theorem hd (walk : WalkO hd.view_39 hd.loose (XL hd.view_39 []) LH.H.says LH.row.toRowW LH.dLaw [] (fun f vs => PySem.call f vs)) : PySem.Challenge.rw_ku0026_01.Holds := by
  refine holds_law (by kernel_rfl) fun said => ?_
  refine holds_open (q := hd.view_39) (loose := hd.loose) (Xt := LH.Xt) (XP := XL hd.view_39 []) (Yf := LH.H.obs) (Ya := LH.H.val) (YP := LH.H.says) (N := 4792) LH.left LH.H.of LH.H.keeps (fun s e => xl_of s (Bool.and_eq_true_iff.mp e).1) XL.keeps (by kernel_rfl) (by kernel_rfl) (by kernel_rfl) (fun s e => recFacts_of (Bool.and_eq_true_iff.mp e).2) (by first | rfl | kernel_rfl) said (by decide +kernel) ⟨rfl, rfl, rfl, rfl, rfl, by decide +kernel⟩ ?hw walk
  case hw => w_witness2
end
end Mine
set_option maxHeartbeats 200000
open PySem PySem.W PyProof.Rows PySem.Calls PySem.Spec
set_option Elab.async false
set_option maxRecDepth 100000
set_option linter.all false
set_option rowWalk.seconds 0
namespace Mine
theorem bitAnd_nat (a b : Nat) : Builtin.bitAnd (a : Int) (b : Int) = ((a &&& b : Nat) : Int) := by
  unfold Builtin.bitAnd
  simp
theorem land_shift (x k : Nat) : x &&& (x / 2 ^ k * 2 ^ k) = x / 2 ^ k * 2 ^ k := by
  rw [← Nat.shiftRight_eq_div_pow, ← Nat.shiftLeft_eq]
  apply Nat.eq_of_testBit_eq
  intro i
  rw [Nat.testBit_and, Nat.testBit_shiftLeft, Nat.testBit_shiftRight]
  by_cases h : i ≥ k
  · simp [h, Nat.add_sub_cancel' h]
  · simp [h]
theorem land_low (a b k : Nat) (hb : b < 2 ^ k) : (a * 2 ^ k) &&& b = 0 := by
  rw [← Nat.shiftLeft_eq]
  apply Nat.eq_of_testBit_eq
  intro i
  rw [Nat.testBit_and, Nat.testBit_shiftLeft, Nat.zero_testBit]
  by_cases h : i ≥ k
  · have : b.testBit i = false := Nat.testBit_lt_two_pow (Nat.lt_of_lt_of_le hb (Nat.pow_le_pow_right (by decide) h))
    simp [this]
  · simp [h]
theorem bitXor_low (x : Int) (k : Nat) (h : 0 ≤ x) : Builtin.bitXor x (x.fdiv (2 ^ k) * 2 ^ k) = x % 2 ^ k := by
  obtain ⟨y, rfl⟩ := Int.eq_ofNat_of_zero_le h
  have e : (y : Int).fdiv (2 ^ k) * 2 ^ k = ((y / 2 ^ k * 2 ^ k : Nat) : Int) := by
    rw [Int.fdiv_eq_ediv_of_nonneg _ (Int.pow_nonneg (by decide))]
    simp
  rw [e, bitXor_and, bitAnd_nat, land_shift]
  have e2 : (y : Int) % 2 ^ k = ((y % 2 ^ k : Nat) : Int) := by simp
  rw [e2]
  have := Nat.div_add_mod y (2 ^ k)
  rw [Nat.mul_comm] at this
  omega
theorem bitOr_shift (a b : Int) (k : Nat) (ha : 0 ≤ a) (hb : 0 ≤ b) (hb2 : b < 2 ^ k) : Builtin.bitOr (a * 2 ^ k) b = a * 2 ^ k + b := by
  obtain ⟨x, rfl⟩ := Int.eq_ofNat_of_zero_le ha
  obtain ⟨y, rfl⟩ := Int.eq_ofNat_of_zero_le hb
  have hy : y < 2 ^ k := by
    have : ((2 : Int) ^ k) = ((2 ^ k : Nat) : Int) := by simp
    omega
  have e : (x : Int) * 2 ^ k = ((x * 2 ^ k : Nat) : Int) := by simp
  rw [e, bitOr_and, bitAnd_nat, land_low _ _ _ hy]
  simp

-- the digits of x to the base 2^n, m of them, the least first
def digs (n m : Nat) (x : Int) : List Int := (List.range m).map fun i => (x / ((2 ^ (n * i) : Nat) : Int)) % ((2 ^ n : Nat) : Int)
theorem digs_length (n m : Nat) (x : Int) : (digs n m x).length = m := by simp [digs]
theorem digs_one {n : Nat} {x : Int} (h0 : 0 ≤ x) (h : x < ((2 ^ (n * 1) : Nat) : Int)) : digs n 1 x = [x] := by
  have : x % ((2 ^ n : Nat) : Int) = x := Int.emod_eq_of_lt h0 (by rw [Nat.mul_one] at h; exact h)
  simp only [digs, List.range_one, List.map_cons, List.map_nil, Nat.mul_zero, Nat.pow_zero, Int.ofNat_one, Int.natCast_one, Int.ediv_one]
  rw [this]
theorem digs_append (n a b : Nat) (x : Int) (h0 : 0 ≤ x) : digs n (a + b) x = digs n a (x % ((2 ^ (n * a) : Nat) : Int)) ++ digs n b (x / ((2 ^ (n * a) : Nat) : Int)) := by
  obtain ⟨y, rfl⟩ := Int.eq_ofNat_of_zero_le h0
  unfold digs
  rw [List.range_add, List.map_append, List.map_map]
  congr 1
  · apply List.map_congr_left
    intro i hi
    have hi' : i < a := List.mem_range.mp hi
    simp only [← Int.natCast_ediv, ← Int.natCast_emod]
    congr 1
    have e : 2 ^ (n * a) = 2 ^ (n * i) * (2 ^ n * 2 ^ (n * (a - i - 1))) := by
      rw [← Nat.pow_add, ← Nat.pow_add]
      congr 1
      have : a = i + (1 + (a - i - 1)) := by omega
      conv => lhs; rw [this, Nat.mul_add, Nat.mul_add, Nat.mul_one]
    rw [e, Nat.mod_mul_right_div_self, Nat.mod_mul_right_mod]
  · apply List.map_congr_left
    intro i _
    simp only [Function.comp_apply, ← Int.natCast_ediv, ← Int.natCast_emod]
    congr 2
    rw [Nat.div_div_eq_div_mul, ← Nat.pow_add, Nat.mul_add]
theorem split_digs {ns D D2 : List Int} {l mid r j : Nat} (hD : D.length = j) (hl : l + j = mid) (hm : mid ≤ r) (hr : r ≤ ns.length) :
    (ns.take l ++ D ++ ns.drop mid).take mid ++ D2 ++ (ns.take l ++ D ++ ns.drop mid).drop r = ns.take l ++ (D ++ D2) ++ ns.drop r := by
  have e : (ns.take l ++ D).length = mid := by rw [List.length_append, List.length_take, hD]; omega
  rw [List.take_append_of_le_length (by omega), List.take_of_length_le (by omega), List.drop_append, List.drop_of_length_le (by omega), List.nil_append, List.drop_drop, e]
  rw [show mid + (r - mid) = r by omega]
  simp
-- the number of the digits, the least first
def undigs (n : Nat) : List Int → Int
  | [] => 0
  | d :: r => d + ((2 ^ n : Nat) : Int) * undigs n r
theorem undigs_append (n : Nat) : ∀ a b : List Int, undigs n (a ++ b) = undigs n a + ((2 ^ (n * a.length) : Nat) : Int) * undigs n b
  | [], b => by simp [undigs]
  | d :: r, b => by
    rw [List.cons_append, undigs, undigs, undigs_append n r b, List.length_cons, Nat.mul_add, Nat.mul_one, Nat.pow_add, Int.natCast_mul, Int.mul_add, Int.add_assoc,
      Int.mul_comm ((2 ^ (n * r.length) : Nat) : Int) ((2 ^ n : Nat) : Int), Int.mul_assoc]
theorem undigs_bound (n : Nat) : ∀ l : List Int, (∀ d ∈ l, 0 ≤ d ∧ d < ((2 ^ n : Nat) : Int)) → 0 ≤ undigs n l ∧ undigs n l < ((2 ^ (n * l.length) : Nat) : Int)
  | [], _ => by simp [undigs]
  | d :: r, h => by
    have ih := undigs_bound n r fun x hx => h x (.tail _ hx)
    have hd := h d (.head _)
    rw [undigs, List.length_cons, Nat.mul_add, Nat.mul_one, Nat.pow_add, Int.natCast_mul]
    generalize ((2 ^ n : Nat) : Int) = B at *
    generalize ((2 ^ (n * r.length) : Nat) : Int) = C at *
    generalize undigs n r = u at *
    have h1 : 0 ≤ B * u := Int.mul_nonneg (by omega) ih.1
    have h2 : B * u ≤ B * (C - 1) := Int.mul_le_mul_of_nonneg_left (by omega) (by omega)
    rw [Int.mul_sub, Int.mul_one] at h2
    have h3 : C * B = B * C := Int.mul_comm _ _
    constructor
    · omega
    · omega
theorem undigs_split {n : Nat} {ns : List Int} {l j m : Nat} (hj : j ≤ m) (hl : l + m ≤ ns.length) :
    undigs n ((ns.drop (l + j)).take (m - j)) * ((2 ^ (n * j) : Nat) : Int) + undigs n ((ns.drop l).take j) = undigs n ((ns.drop l).take m) := by
  have e : (ns.drop l).take m = (ns.drop l).take j ++ (ns.drop (l + j)).take (m - j) := by
    rw [← List.drop_drop, ← List.take_add]
    congr 1; omega
  rw [e, undigs_append, List.length_take, List.length_drop, Nat.min_eq_left (by omega), Int.mul_comm, Int.add_comm]
theorem undigs_digs (n : Nat) (hn : 0 < n) : ∀ (m : Nat) (a : Int), 0 ≤ a → a < ((2 ^ (n * m) : Nat) : Int) → undigs n (digs n m a) = a
  | 0, a, h0, h => by simp at h; simp [digs, undigs]; omega
  | m + 1, a, h0, h => by
    have hp : (0 : Int) < ((2 ^ n : Nat) : Int) := by have := Nat.pow_pos (n := n) (show 0 < 2 by decide); omega
    have h2 : a / ((2 ^ n : Nat) : Int) < ((2 ^ (n * m) : Nat) : Int) := by
      refine Int.ediv_lt_of_lt_mul hp ?_
      rw [← Int.natCast_mul, ← Nat.pow_add, show n * m + n = n * (m + 1) by rw [Nat.mul_add, Nat.mul_one]]
      exact h
    rw [show m + 1 = 1 + m by omega, digs_append n 1 m a h0, undigs_append, digs_length, Nat.mul_one, undigs_digs n hn m _ (Int.ediv_nonneg h0 (Int.le_of_lt hp)) h2,
      digs_one (Int.emod_nonneg _ (by omega)) (by rw [Nat.mul_one]; exact Int.emod_lt_of_pos _ hp)]
    simp only [undigs, Int.mul_zero, Int.add_zero]
    exact Int.emod_add_mul_ediv a _
theorem digs_bound (n m : Nat) (a : Int) : ∀ d ∈ digs n m a, 0 ≤ d ∧ d < ((2 ^ n : Nat) : Int) := fun d hd => by
  have hp : (0 : Int) < ((2 ^ n : Nat) : Int) := by have := Nat.pow_pos (n := n) (show 0 < 2 by decide); omega
  obtain ⟨i, _, rfl⟩ := List.mem_map.mp hd
  exact ⟨Int.emod_nonneg _ (by omega), Int.emod_lt_of_pos _ hp⟩

theorem room_of {d n : Nat} (h : d ≤ n) (e : n < recursionLimit) : d < recursionLimit := Nat.lt_of_le_of_lt h e
theorem le_up {a b k c : Nat} (h : a ≤ b) (e : b + k ≤ c) : a + k ≤ c := Nat.le_trans (Nat.add_le_add_right h k) e
theorem enterS {prog : Program} {w : World} {A : Around} {R : Result → Shared → Prop} {s : Shared} {K : Frag} {name qual : Str} {params : Arguments} {body : List Stmt} {scope : Scope}
    {dV kV doc pm cdv ct oc : Value} {an od : Option Addr} {osl : Array (Option Value)} {f : Addr} {args : Args} {binds : List (Str × Value)} {p : Program} {loose : List Str} {mean : ExcName → Option Value} {mg mb : Str → Option Value}
    (X : K.In s.heap) (T : Top p loose mean mg mb s.heap)
    (ho : K.lookup f = some ⟨oc, od, .func (fnOf name qual params body scope dV kV doc pm an cdv ct), osl⟩) (hcd : codeIn K cdv qual = true) (hroom : A.depth < recursionLimit)
    (hbind : BindsTo s (fnOf name qual params body scope dV kV doc pm an cdv ct) args binds) (hloc : ∀ y ∈ binds, scope.names.lookup y.1 = some .local)
    (hco : scope.isCoroutine = false) (hgen : scope.isGenerator = false) (hk : scope.kind = .function) (hcell : ∀ x ∈ scope.names, x.2 ≠ .cell)
    (h : ∀ L' h₁, Fr s.heap L' h₁ (fun y => binds.reverse.lookup y) → News s.heap L' h₁ [] →
      wpAny (model prog w) (A.deeper (envOf qual scope L' f cdv)) (execs body (envOf qual scope L' f cdv))
        (fun fl s' => R (.ok (.ret (match fl with | .ret v => v | _ => .none))) s') (fun _ _ => False)
        { s with heap := h₁, toks := s.toks + binds.length }) : codeAny (model prog w) A (.call (.ref f) args) R s := by
  refine codeAny_call_def (fd := fnOf name qual params body scope dV kV doc pm an cdv ct) (body := body) (binds := binds) hroom (X _ _ ho) rfl T.nolimit (codeRec_of X hcd) rfl hbind hcell hloc (fun h₁ hns hk₁ => ?_) hco hgen hk
  exact wpAny_mono (h s.heap.objs.size h₁ ⟨hns, hk₁, Nat.le_refl _⟩ News.nil) (fun fl s' hl => hl) fun _ _ y => y.elim

theorem retI {Q : Value → Shared → Prop} {a b : Int} {t : Tok} {s : Shared} (e : b = a) (h : Q (.int a t) s) : Q (.int b t) s := e ▸ h
theorem retB {Q : Value → Shared → Prop} {a b : Bool} {s : Shared} (e : b = a) (h : Q (.bool a) s) : Q (.bool b) s := e ▸ h
theorem retS {Q : Value → Shared → Prop} {a b : Str} {t : Tok} {s : Shared} (e : b = a) (h : Q (.str a t) s) : Q (.str b t) s := e ▸ h
theorem retBy {Q : Value → Shared → Prop} {a b : Array UInt8} {t : Tok} {s : Shared} (e : b = a) (h : Q (.bytes a t) s) : Q (.bytes b t) s := e ▸ h
def StopHere (P : Prop) : Prop := P
theorem StopHere.go {P : Prop} (h : StopHere P) : P := h

section
variable {prog : Program} {w : World} {A : Around} {R : Result → Shared → Prop} {s : Shared} {K : Frag} {name qual : Str} {params : Arguments} {body : List Stmt} {scope : Scope}
    {dV kV doc pm cdv ct oc : Value} {an od : Option Addr} {osl : Array (Option Value)} {f : Addr} {args : Args} {binds : List (Str × Value)} {p : Program} {loose : List Str} {mean : ExcName → Option Value} {mg mb : Str → Option Value}
    {h₀ : Heap} {hid : List Addr} {cl : List (Str × Addr)} {fo : Obj}
-- the ground of a call that may change the objects at hid alone
structure Gr (h₀ h : Heap) (hid : List Addr) (g : Heap) : Prop where
  up : h₀.StaysIn g
  sub : g.StaysIn h
  keep : ∀ b o, b ∉ hid → h.get? b = some o → g.get? b = some o
  none : ∀ a ∈ hid, g.get? a = none
  size : g.objs.size = h.objs.size
theorem gr_of {h : Heap} (st : h₀.StaysIn h) (hid0 : ∀ a ∈ hid, h₀.get? a = none) : Gr h₀ h hid (hideAll h hid) :=
  ⟨fun b o e => hideAll_get _ (st b o e) fun q => (by rw [hid0 b q] at e; cases e), fun b o e => of_hideAll _ e, fun b o n e => hideAll_get _ e n, fun a ha => hideAll_none _ ha, hideAll_size _ _⟩
theorem Gr.up_none {h g : Heap} {a : Addr} (G : Gr h₀ h hid g) (e : g.get? a = Option.none) : h₀.get? a = Option.none := by
  cases q : h₀.get? a with
  | none => rfl
  | some o => rw [G.up _ _ q] at e; cases e
theorem Gr.sub_none {h h₁ g : Heap} {a : Addr} {L : Addr} {o : Obj} {news : List (Addr × Obj)} (G : Gr h₀ h hid g) (N : News g L h₁ news) (hm : (a, o) ∈ news) (hn : a ∉ hid) : h.get? a = Option.none := by
  cases q : h.get? a with
  | none => rfl
  | some o' => have := G.keep _ _ hn q; rw [(N _ hm).2.2] at this; cases this
theorem Gr.news {h h' g : Heap} {L : Addr} {news : List (Addr × Obj)} (G : Gr h₀ h hid g) (N : News h L h' news) : News g L h' news := fun p hp =>
  ⟨(N p hp).1, (N p hp).2.1, by
    cases q : g.get? p.1 with
    | none => rfl
    | some o => have := G.sub _ _ q; rw [(N p hp).2.2] at this; cases this⟩

-- a def of the text that is closed over nothing and has no cells
theorem enterH (X : K.In h₀) (T : Top p loose mean mg mb h₀) (st : h₀.StaysIn s.heap) (hid0 : ∀ a ∈ hid, h₀.get? a = none)
    (ho : s.heap.get? f = some fo) (hd : fo.data = .func (fnX name qual params body scope cl dV kV doc pm an cdv ct)) (hcd : s.heap.CodeRec cdv qual) (hroom : A.depth < recursionLimit)
    (hbind : BindsTo s (fnX name qual params body scope cl dV kV doc pm an cdv ct) args binds) (hloc : ∀ y ∈ binds, scope.names.lookup y.1 = some .local)
    (hco : scope.isCoroutine = false) (hgen : scope.isGenerator = false) (hk : scope.kind = .function) (hcell : ∀ x ∈ scope.names, x.2 ≠ .cell)
    (h : ∀ g L' h₁, Gr h₀ s.heap hid g → Fr g L' h₁ (fun y => binds.reverse.lookup y) → s.heap.StaysIn h₁ → L' = s.heap.objs.size → K.In g → Top p loose mean mg mb g →
      wpAny (model prog w) (A.deeper (envX qual scope L' f cdv cl)) (execs body (envX qual scope L' f cdv cl))
        (fun fl s' => R (.ok (.ret (match fl with | .ret v => v | _ => .none))) s') (fun _ _ => False)
        { s with heap := h₁, toks := s.toks + binds.length }) : codeAny (model prog w) A (.call (.ref f) args) R s := by
  refine codeAny_call_def (fd := fnX name qual params body scope cl dV kV doc pm an cdv ct) (body := body) (binds := binds) hroom ho hd (T.nolimit.keeps st) hcd rfl hbind hcell hloc (fun h₁ hns hk₁ => ?_) hco hgen hk
  have G := gr_of st hid0
  exact wpAny_mono (h _ s.heap.objs.size h₁ G ⟨hns, fun b o e => hk₁ b o (G.sub _ _ e), Nat.le_of_eq G.size⟩ hk₁ rfl (X.keeps G.up) (T.keeps G.up)) (fun fl s' hl => hl) fun _ _ y => y.elim

-- a def of the text that has cells
theorem enterC (X : K.In h₀) (T : Top p loose mean mg mb h₀) (st : h₀.StaysIn s.heap) (hid0 : ∀ a ∈ hid, h₀.get? a = none)
    (ho : K.lookup f = some ⟨oc, od, .func (fnOf name qual params body scope dV kV doc pm an cdv ct), osl⟩) (hcd : codeIn K cdv qual = true) (hroom : A.depth < recursionLimit)
    (hbind : BindsTo s (fnOf name qual params body scope dV kV doc pm an cdv ct) args binds)
    (hkind : (binds.all fun y => scope.names.lookup y.1 == some .local || scope.names.lookup y.1 == some .cell) = true)
    (hnd : ((cellsFrom 0 scope.names []).map (·.1)).Nodup)
    (hco : scope.isCoroutine = false) (hgen : scope.isGenerator = false) (hk : scope.kind = .function)
    (h : ∀ g L' h₁ tk cells, Gr h₀ s.heap hid g → Fr g L' h₁ (bindL (envOfC qual scope L' f cdv).kindOf binds fun _ => none) → News g L' h₁ cells →
      CellsAre (bindC (envOfC qual scope L' f cdv).kindOf binds fun _ => none) (cellsFrom (L' + 1) scope.names []) cells → s.heap.StaysIn h₁ → L' = s.heap.objs.size → K.In g → Top p loose mean mg mb g →
      wpAny (model prog w) (A.deeper (envOfC qual scope L' f cdv)) (execs body (envOfC qual scope L' f cdv))
        (fun fl s' => R (.ok (.ret (match fl with | .ret v => v | _ => .none))) s') (fun _ _ => False)
        { s with heap := h₁, toks := tk }) : codeAny (model prog w) A (.call (.ref f) args) R s := by
  refine codeAny_call_function hroom (st _ _ (X _ _ ho)) rfl hco hgen rfl (codeRec_of (X.keeps st) hcd) (hbind _ _ _ _ ?_)
  refine wpAny_newFunctionEnv_cells hk (kindsX hkind _) fun env' he s' x => ?_
  subst he
  refine ⟨(T.nolimit.keeps st).keeps x.toInCall.keep, codeAny_func ?_⟩
  obtain ⟨h₁, tk, rfl, _⟩ := x.done
  have hk₁ := x.toInCall.keep
  obtain ⟨cells, NC, Y⟩ := Cl.news (h₀ := s.heap) (Nat.le_refl _) fun n c hm => ⟨x.cell n c (lookup_of_mem_nodup (cellsFrom_names scope.names 0 (s.heap.objs.size + 1) [] [] rfl ▸ hnd) hm), x.above n c hm⟩
  have G := gr_of st hid0
  exact wpAny_mono (h _ s.heap.objs.size h₁ tk cells G ⟨x.toInCall.ns, fun b o e => hk₁ b o (G.sub _ _ e), Nat.le_of_eq G.size⟩ (G.news NC) Y hk₁ rfl (X.keeps G.up) (T.keeps G.up)) (fun fl s' hl => hl) fun _ _ y => y.elim

-- a plain def of the text that may change the objects at hid
theorem enterT (X : K.In h₀) (T : Top p loose mean mg mb h₀) (st : h₀.StaysIn s.heap) (hid0 : ∀ a ∈ hid, h₀.get? a = none)
    (ho : K.lookup f = some ⟨oc, od, .func (fnOf name qual params body scope dV kV doc pm an cdv ct), osl⟩) (hcd : codeIn K cdv qual = true) (hroom : A.depth < recursionLimit)
    (hbind : BindsTo s (fnOf name qual params body scope dV kV doc pm an cdv ct) args binds) (hloc : ∀ y ∈ binds, scope.names.lookup y.1 = some .local)
    (hco : scope.isCoroutine = false) (hgen : scope.isGenerator = false) (hk : scope.kind = .function) (hcell : ∀ x ∈ scope.names, x.2 ≠ .cell)
    (h : ∀ g L' h₁, Gr h₀ s.heap hid g → Fr g L' h₁ (fun y => binds.reverse.lookup y) → News g L' h₁ [] → s.heap.StaysIn h₁ → L' = s.heap.objs.size → K.In g → Top p loose mean mg mb g →
      wpAny (model prog w) (A.deeper (envOf qual scope L' f cdv)) (execs body (envOf qual scope L' f cdv))
        (fun fl s' => R (.ok (.ret (match fl with | .ret v => v | _ => .none))) s') (fun _ _ => False)
        { s with heap := h₁, toks := s.toks + binds.length }) : codeAny (model prog w) A (.call (.ref f) args) R s :=
  enterH (cl := []) X T st hid0 (st _ _ (X _ _ ho)) rfl (codeRec_of (X.keeps st) hcd) hroom hbind hloc hco hgen hk hcell fun g L' h₁ G F' hs hL X' T' => h g L' h₁ G F' News.nil hs hL X' T'
end

-- a code table at P: empty, or with the one code object that the def's inner def has
def TabSt (G0 : Heap) (P : Addr) (l c : Int) (q : Str) (h : Heap) : Prop :=
  h.get? P = some (tabObj #[]) ∨ ∃ cd oc vs t, h.get? P = some (tabObj #[rawInt l, rawInt c, .ref cd]) ∧ h.get? cd = some oc ∧ oc.data = .fields vs ∧ vs[1]? = some (.str q t) ∧ @Ne Nat cd P ∧ G0.get? cd = none
abbrev q54 : Str := Str.ofString "_int2digits.<locals>.inner"
abbrev q61 : Str := Str.ofString "_digits2int.<locals>.inner"
abbrev St54 (G0 h : Heap) : Prop := TabSt G0 54 36 4 q54 h
abbrev St61 (G0 h : Heap) : Prop := TabSt G0 61 51 4 q61 h
theorem tab_right {G0 h : Heap} {P cd : Addr} {l c : Int} {q q' : Str} {oc : Obj} {vs : Array Value} {t : Tok} (h1 : h.get? P = some (tabObj #[rawInt l, rawInt c, .ref cd])) (h2 : h.get? cd = some oc) (h3 : oc.data = .fields vs) (h4 : vs[1]? = some (.str q' t)) (e : q' = q)
    (h5 : @Ne Nat cd P) (h6 : G0.get? cd = none) : TabSt G0 P l c q h := .inr ⟨cd, oc, vs, t, h1, h2, h3, e ▸ h4, h5, h6⟩
theorem str_eq {vs : Array Value} {q q' : Str} {t : Tok} (h : vs[1]? = some (.str q t)) (e : q = q') : vs[1]? = some (.str q' t) := e ▸ h

-- the two code tables in a ledger's tail: a table, and the code object that it tells of (or the table once more)
def TabKn (G0 g : Heap) (ex : Addr × Obj) (P : Addr) (l c : Int) (q : Str) (ps : Array Value) : Prop :=
  ps = #[] ∨ ∃ cd oc vs t, ps = #[rawInt l, rawInt c, .ref cd] ∧ ((cd, oc) = ex ∨ g.get? cd = some oc) ∧ oc.data = .fields vs ∧ vs[1]? = some (.str q t) ∧ @Ne Nat cd P ∧ G0.get? cd = none
def T4 (G0 g : Heap) (p : Array Value) (c5 : Addr) (o5 : Obj) (q : Array Value) (c6 : Addr) (o6 : Obj) : Prop :=
  TabKn G0 g (c5, o5) 54 36 4 q54 p ∧ TabKn G0 g (c6, o6) 61 51 4 q61 q
abbrev tl4 (p : Array Value) (c5 : Addr) (o5 : Obj) (q : Array Value) (c6 : Addr) (o6 : Obj) : List (Addr × Obj) := [(54, tabObj p), (c5, o5), (61, tabObj q), (c6, o6)]
theorem TabKn.st {G0 g h : Heap} {L P : Addr} {l c : Int} {q : Str} {ps : Array Value} {m : Str → Option Value} {ex : Addr × Obj} {news : List (Addr × Obj)} (K : TabKn G0 g ex P l c q ps) (F : Fr g L h m) (N : News g L h news) (hP : h.get? P = some (tabObj ps)) (hs : ex ∈ news) : TabSt G0 P l c q h := by
  rcases K with rfl | ⟨cd, oc, vs, t, rfl, h1, h2, h3, h4, h5⟩
  · exact .inl hP
  · refine .inr ⟨cd, oc, vs, t, hP, ?_, h2, h3, h4, h5⟩
    rcases h1 with h1 | h1
    · subst h1; exact (N _ hs).1
    · exact F.keep _ _ h1
section
variable {G0 g h h' : Heap} {L : Addr} {m : Str → Option Value} {own news : List (Addr × Obj)} {p q : Array Value} {c5 c6 : Addr} {o5 o6 : Obj}
theorem T4.st54 (K : T4 G0 g p c5 o5 q c6 o6) (F : Fr g L h m) (N : News g L h news) (h1 : (54, tabObj p) ∈ news) (h2 : (c5, o5) ∈ news) : St54 G0 h := K.1.st F N (N _ h1).1 h2
theorem T4.st61 (K : T4 G0 g p c5 o5 q c6 o6) (F : Fr g L h m) (N : News g L h news) (h1 : (61, tabObj q) ∈ news) (h2 : (c6, o6) ∈ news) : St61 G0 h := K.2.st F N (N _ h1).1 h2
theorem TabSt.at {P : Addr} {l c : Int} {q : Str} (S : TabSt G0 P l c q h) : ∃ ps, h.get? P = some (tabObj ps) := by
  rcases S with S | ⟨_, _, _, _, S, _⟩
  · exact ⟨_, S⟩
  · exact ⟨_, S⟩
theorem tab_code_ne {P cd : Addr} {l c : Int} {q q' : Str} {oc : Obj} {vs : Array Value} {t : Tok} (S : TabSt G0 P l c q h) (h1 : h.get? cd = some oc) (h2 : oc.data = .fields vs) (h3 : vs[1]? = some (.str q' t)) : cd ≠ P := by
  rintro rfl
  rcases S with S | ⟨_, _, _, _, S, _⟩
  · rw [h1] at S; cases S; cases h2; cases h3
  · rw [h1] at S; cases S; cases h2; cases h3
theorem TabSt.mono {P : Addr} {l c : Int} {q : Str} (S : TabSt G0 P l c q h) (hk : h.StaysIn h') : TabSt G0 P l c q h' := by
  rcases S with S | ⟨cd, oc, vs, t, S, h1, r⟩
  · exact .inl (hk _ _ S)
  · exact .inr ⟨cd, oc, vs, t, hk _ _ S, hk _ _ h1, r⟩
theorem TabSt.but {P P' : Addr} {l c l' c' : Int} {q q' : Str} (S : TabSt G0 P l c q h) (S' : TabSt G0 P' l' c' q' h) (hPP : P ≠ P') (hk : ∀ b o, b ≠ P' → h.get? b = some o → h'.get? b = some o) : TabSt G0 P l c q h' := by
  rcases S with S | ⟨cd, oc, vs, t, S, h1, h2, h3, r⟩
  · exact .inl (hk _ _ hPP S)
  · exact .inr ⟨cd, oc, vs, t, hk _ _ hPP S, hk _ _ (tab_code_ne (G0 := G0) S' h1 h2 h3) h1, h2, h3, r⟩
-- the tail at a heap with known tables
theorem tl_of (F : Fr g L h m) (N : News g L h own) (S5 : St54 G0 h) (S6 : St61 G0 h) (g5 : g.get? 54 = none) (g6 : g.get? 61 = none) (l5 : 54 ≠ L) (l6 : 61 ≠ L) :
    ∃ p c5 o5 q c6 o6, T4 G0 g p c5 o5 q c6 o6 ∧ News g L h (own ++ tl4 p c5 o5 q c6 o6) := by
  have dictL : ∀ o vs, h.get? L = some o → o.data ≠ .fields vs := fun o vs e hd => by
    obtain ⟨oL, es, ep, e', hd', _⟩ := F.ns
    rw [e] at e'; cases e'; rw [hd] at hd'; cases hd'
  have one : ∀ P l c q, TabSt G0 P l c q h → P ≠ L → g.get? P = none → ∃ ps c' o', h.get? P = some (tabObj ps) ∧ TabKn G0 g (c', o') P l c q ps ∧ h.get? c' = some o' ∧ c' ≠ L ∧ g.get? c' = none := by
    intro P l c q S hL hg
    rcases S with S | ⟨cd, oc, vs, t, S, h1, h2, h3, h4, h5⟩
    · exact ⟨_, P, _, S, .inl rfl, S, hL, hg⟩
    · cases hgc : g.get? cd with
      | none => exact ⟨_, cd, oc, S, .inr ⟨cd, oc, vs, t, rfl, .inl rfl, h2, h3, h4, h5⟩, h1, fun e => dictL oc vs (by rw [← e]; exact h1) h2, hgc⟩
      | some o =>
        have := F.keep _ _ hgc
        rw [h1] at this; cases this
        exact ⟨_, P, _, S, .inr ⟨cd, oc, vs, t, rfl, .inr hgc, h2, h3, h4, h5⟩, S, hL, hg⟩
  obtain ⟨p, c5, o5, a1, a2, a3, a4, a5⟩ := one _ _ _ _ S5 l5 g5
  obtain ⟨q, c6, o6, b1, b2, b3, b4, b5⟩ := one _ _ _ _ S6 l6 g6
  refine ⟨p, c5, o5, q, c6, o6, ⟨a2, b2⟩, fun x hx => ?_⟩
  rcases List.mem_append.mp hx with hx | hx
  · exact N x hx
  · simp only [List.mem_cons, List.not_mem_nil, or_false] at hx
    rcases hx with rfl | rfl | rfl | rfl
    · exact ⟨a1, l5, g5⟩
    · exact ⟨a3, a4, a5⟩
    · exact ⟨b1, l6, g6⟩
    · exact ⟨b3, b4, b5⟩
abbrev KeepT (h h' : Heap) : Prop := ∀ b o, b ≠ 54 → b ≠ 61 → h.get? b = some o → h'.get? b = some o
-- behind a call that may fill the tables
theorem tl_step (F : Fr g L h m) (N : News g L h (own ++ tl4 p c5 o5 q c6 o6)) (hk : KeepT h h') (S5 : St54 G0 h') (S6 : St61 G0 h') (g5 : g.get? 54 = none) (g6 : g.get? 61 = none) (l5 : 54 ≠ L) (l6 : 61 ≠ L)
    (ho : ∀ p ∈ own, ∀ ps, p.2 ≠ tabObj ps) : Fr g L h' m ∧ ∃ p c5 o5 q c6 o6, T4 G0 g p c5 o5 q c6 o6 ∧ News g L h' (own ++ tl4 p c5 o5 q c6 o6) := by
  obtain ⟨oL, es, ep, e, r⟩ := F.ns
  have F' : Fr g L h' m := ⟨⟨oL, es, ep, hk _ _ (Ne.symm l5) (Ne.symm l6) e, r⟩, fun b o e => hk b o (fun q => by rw [q, g5] at e; cases e) (fun q => by rw [q, g6] at e; cases e) (F.keep b o e), F.above⟩
  refine ⟨F', tl_of F' (fun x hp => ?_) S5 S6 g5 g6 l5 l6⟩
  have ha := (N (54, tabObj p) (by simp)).1
  have hb := (N (61, tabObj q) (by simp)).1
  have np := N x (List.mem_append_left _ hp)
  refine ⟨hk _ _ (fun q => ?_) (fun q => ?_) np.1, np.2⟩
  · have := np.1; rw [q, ha] at this; exact ho x hp _ (Option.some.inj this).symm
  · have := np.1; rw [q, hb] at this; exact ho x hp _ (Option.some.inj this).symm
end
theorem ints_cases2 {vs : List Value} {ns : List Int} (h : IntsAre vs ns) (hl : ns.length ≤ 2) : (vs = [] ∧ ns = []) ∨ (∃ a t, vs = [.int a t] ∧ ns = [a]) ∨ (∃ a t b u, vs = [.int a t, .int b u] ∧ ns = [a, b]) := by
  cases h with
  | nil => exact .inl ⟨rfl, rfl⟩
  | cons a t h =>
    cases h with
    | nil => exact .inr (.inl ⟨a, t, rfl, rfl⟩)
    | cons b u h =>
      cases h with
      | nil => exact .inr (.inr ⟨a, t, b, u, rfl, rfl⟩)
      | cons c v h => simp at hl
theorem news_new {g h h' : Heap} {L l : Addr} {o : Obj} {m : Str → Option Value} {news : List (Addr × Obj)} (F : Fr g L h m) (hl : h.get? l = none) (hg : h'.get? l = some o) (N : News g L h' news) : News g L h' ((l, o) :: news) := by
  intro p hp
  rcases List.mem_cons.mp hp with rfl | hp
  · refine ⟨hg, ?_, ?_⟩
    · rintro rfl
      obtain ⟨oL, _, _, e', _⟩ := F.ns
      rw [hl] at e'; cases e'
    · cases q : g.get? l with
      | none => rfl
      | some o => have := F.keep _ _ q; rw [hl] at this; cases this
  · exact N p hp
def AllNe (c : Addr) : List (Addr × Obj) → Prop
  | [] => True
  | p :: r => @Ne Nat p.1 c ∧ AllNe c r
theorem allNe_of {g h : Heap} {L c : Addr} (hc : h.get? c = none) : ∀ {news : List (Addr × Obj)}, News g L h news → AllNe c news
  | [], _ => trivial
  | p :: r, N => by
    refine ⟨fun e => ?_, allNe_of hc fun q hq => N q (.tail _ hq)⟩
    have := (N p (.head _)).1
    rw [show p.1 = c from e, hc] at this
    cases this
theorem news_ne_obj {g h : Heap} {L a b : Addr} {o o' : Obj} {news : List (Addr × Obj)} (N : News g L h news) (h1 : (a, o) ∈ news) (h2 : (b, o') ∈ news) (hne : o ≠ o') : a ≠ b := fun e => by
  have e1 := (N _ h1).1
  have e2 := (N _ h2).1
  rw [show a = b from e] at e1
  exact hne (Option.some.inj (e1.symm.trans e2))
theorem keepT_of {h₀ h g h' : Heap} {L : Addr} {m : Str → Option Value} (G : Gr h₀ h [54, 61] g) (F : Fr g L h' m) : KeepT h h' := fun b o h1 h2 e => F.keep _ _ (G.keep _ _ (by simp only [List.mem_cons, List.not_mem_nil, or_false, not_or]; exact ⟨h1, h2⟩) e)

section
variable {prog : Program} {w : World} {A : Around} {E : Value → Shared → Prop} {s : Shared} {a n b : Int} {t u : Tok} {Q : Value → Shared → Prop} {k : Nat}
theorem pow_cast (k : Nat) : ((2 : Int) ^ k) = ((2 ^ k : Nat) : Int) := by simp
theorem pow_pos' (k : Nat) : (0 : Int) < ((2 ^ k : Nat) : Int) := by have := Nat.pow_pos (n := k) (show 0 < 2 by decide); omega
theorem rshift_k (hn : n = (k : Int)) (h : Q (.int (a / ((2 ^ k : Nat) : Int)) s.toks) { s with toks := s.toks + 1 }) : wpAny (model prog w) A (binaryOp .RShift (.int a t) (.int n u)) Q E s := by
  subst hn
  refine rshift_int (Int.natCast_nonneg k) ?_
  rw [Int.toNat_natCast, pow_cast, Int.fdiv_eq_ediv_of_nonneg _ (Int.le_of_lt (pow_pos' k))]
  exact h
theorem lshift_k (hn : n = (k : Int)) (ha : a.natAbs < 2 ^ 1000) (hk : k ≤ 10000) (h : Q (.int (a * ((2 ^ k : Nat) : Int)) s.toks) { s with toks := s.toks + 1 }) : wpAny (model prog w) A (binaryOp .LShift (.int a t) (.int n u)) Q E s := by
  subst hn
  have hb : Builtin.Int.intBits a ≤ 1000 := intBits_le_iff.mpr ha
  refine lshift_int (Int.natCast_nonneg k) (by omega) ?_
  rw [Int.toNat_natCast, pow_cast]
  exact h
theorem lshift_48 {A : Around} (hn : n = 48) (ha0 : 0 ≤ a) (ha : a < 281474976710656) (h : Q (.int (a * 281474976710656) s.toks) { s with toks := s.toks + 1 }) : wpAny (model prog w) A (binaryOp .LShift (.int a t) (.int n u)) Q E s :=
  lshift_k (k := 48) hn (Nat.lt_of_lt_of_le (show a.natAbs < 2 ^ 48 by omega) (Nat.pow_le_pow_right (by decide) (by decide))) (by decide) h
theorem xor_low (h0 : 0 ≤ a) (h : Q (.int (a % ((2 ^ k : Nat) : Int)) s.toks) { s with toks := s.toks + 1 }) : wpAny (model prog w) A (binaryOp .BitXor (.int a t) (.int (a / ((2 ^ k : Nat) : Int) * ((2 ^ k : Nat) : Int)) u)) Q E s := by
  refine xor_int ?_
  have e := bitXor_low a k h0
  rw [pow_cast, Int.fdiv_eq_ediv_of_nonneg _ (Int.le_of_lt (pow_pos' k))] at e
  rw [e]; exact h
theorem or_shift (ha : 0 ≤ a) (hb : 0 ≤ b) (hb2 : b < ((2 ^ k : Nat) : Int)) (h : Q (.int (a * ((2 ^ k : Nat) : Int) + b) s.toks) { s with toks := s.toks + 1 }) : wpAny (model prog w) A (binaryOp .BitOr (.int (a * ((2 ^ k : Nat) : Int)) t) (.int b u)) Q E s := by
  refine or_int ?_
  have e := bitOr_shift a b k ha hb (by rw [pow_cast]; exact hb2)
  rw [pow_cast] at e
  rw [e]; exact h
theorem Fr_but {g h h' : Heap} {L D : Addr} {m : Str → Option Value} (F : Fr g L h m) (hk : ∀ b o, b ≠ D → h.get? b = some o → h'.get? b = some o) (hD : g.get? D = none) (hL : L ≠ D) : Fr g L h' m := by
  obtain ⟨oL, es, ep, e, r⟩ := F.ns
  exact ⟨⟨oL, es, ep, hk _ _ hL e, r⟩, fun b o e => hk b o (fun q => by rw [q, hD] at e; cases e) (F.keep b o e), F.above⟩
end
theorem keep_but {h₀ h g h' : Heap} {L D : Addr} {m : Str → Option Value} {l : List (Addr × Obj)} (G : Gr h₀ h (l.map (·.1)) g) (F : Fr g L h' m) (N : ∀ q ∈ l, h.get? q.1 = some q.2) (hN : ∀ q ∈ l, q.1 ≠ D → h'.get? q.1 = some q.2) :
    ∀ b o, b ≠ D → h.get? b = some o → h'.get? b = some o := fun b o hb e => by
  by_cases hm : b ∈ l.map (·.1)
  · obtain ⟨q, hq, rfl⟩ := List.mem_map.mp hm
    rw [N q hq] at e; cases e
    exact hN q hq hb
  · exact F.keep _ _ (G.keep _ _ hm e)
theorem news_but {g h h' : Heap} {L D : Addr} {pre post : List (Addr × Obj)} {o o' : Obj} (N : News g L h (pre ++ (D, o) :: post)) (hk : ∀ b o, b ≠ D → h.get? b = some o → h'.get? b = some o) (hD : h'.get? D = some o')
    (h1 : ∀ p ∈ pre, p.1 ≠ D) (h2 : ∀ p ∈ post, p.1 ≠ D) : News g L h' (pre ++ (D, o') :: post) := fun p hp => by
  have ND := N (D, o) (List.mem_append_right _ (.head _))
  rcases List.mem_append.mp hp with q | q
  · exact ⟨hk _ _ (h1 p q) (N p (List.mem_append_left _ q)).1, (N p (List.mem_append_left _ q)).2⟩
  · rcases List.mem_cons.mp q with rfl | q
    · exact ⟨hD, ND.2⟩
    · exact ⟨hk _ _ (h2 p q) (N p (List.mem_append_right _ (.tail _ q))).1, (N p (List.mem_append_right _ (.tail _ q))).2⟩
theorem news_hid {h₀ h g h₁ : Heap} {hid : List Addr} {L : Addr} {cells : List (Addr × Obj)} (l : List (Addr × Obj)) (G : Gr h₀ h hid g) (N : News g L h₁ cells) (hs : h.StaysIn h₁) (hL : L = h.objs.size) (hl : ∀ q ∈ l, h.get? q.1 = some q.2) (hm : ∀ q ∈ l, q.1 ∈ hid) :
    News g L h₁ (cells ++ l) := fun p hp => (List.mem_append.mp hp).elim (N p) fun hp =>
  ⟨hs _ _ (hl p hp), by rw [hL]; exact Nat.ne_of_lt (Heap.lt_size (hl p hp)), G.none _ (hm p hp)⟩
section
variable {prog : Program} {w : World} {A : Around} {E : Value → Shared → Prop} {s : Shared} {Q : Value → Shared → Prop} {h₀ : Heap} {L : Addr} {m : Str → Option Value} {news : List (Addr × Obj)}
theorem mul_one' {l : Addr} {v : Value} {k c : Nat} {x : Int} {u : Tok} (F : Fr h₀ L s.heap m) (N : News h₀ L s.heap news) (hl : s.heap.get? l = some (listOf [v].toArray k)) (hx : x = (c : Int)) (hc : c ≤ 10000)
    (h : ∀ l' h', Fr h₀ L h' m → News h₀ L h' ((l', listOf (List.replicate c v).toArray 0) :: news) → (∀ p ∈ news, p.1 < l') → @LT.lt Nat _ L l' → Q (.ref l') { s with heap := h' }) : wpAny (model prog w) A (binaryOp .Mult (.ref l) (.int x u)) Q E s := by
  subst hx
  refine mul_list F N hl (by omega) (by omega) (by simp; omega) fun h' F' N' => ?_
  refine h _ h' F' ?_ (fun p hp => Heap.lt_size (N p hp).1) F.ns.lt
  have e : List.foldl (fun x1 x2 => x1 ++ x2) #[] (List.replicate (if [v].toArray.isEmpty = true then 0 else ((c : Int)).toNat) [v].toArray) = (List.replicate c v).toArray := by
    rw [listMul_foldl_if, Int.toNat_natCast]
    congr 1
    simp
  rw [e] at N'
  exact N'
end
theorem ints_replicate (c : Nat) (x : Int) (t : Tok) : IntsAre (List.replicate c (.int x t)) (List.replicate c x) := by
  induction c with
  | zero => exact .nil
  | succ c ih => exact .cons _ _ ih
--{
local macro_rules | `(tactic| walk_at "binaryOp Mult ref int") => `(tactic| (k_here; kn_here; k_dflt (refine' mul_one' ?F ?N ?hl ?hx ?hc ?_; (case F => k_asm); (case N => k_asm); (case hl => exact News.get (by k_asm) (by k_mem)); (case hx => assumption); (case hc => omega); k_whole); intro l' h' F' N' l1 l2; (try k_lt l1); (try k_lt2 l2); (try k_sweep)))
--}
section
variable {prog : Program} {w : World} {A : Around} {E : Value → Shared → Prop} {s : Shared} {Q : Value → Shared → Prop} {h₀ : Heap} {L : Addr} {m : Str → Option Value} {news : List (Addr × Obj)}
theorem isList_news {h : Heap} {l : Addr} {vs : Array Value} {k : Nat} (N : News h₀ L h news) (hm : (l, listOf vs k) ∈ news) : h.IsList l vs := ⟨_, (N _ hm).1, rfl, k, rfl⟩
theorem len_n {l : Addr} {vs : Array Value} {c : Nat} (hl : s.heap.IsList l vs) (hc : vs.size = c) (hb : c ≤ 1000000)
    (h : Q (.int (c : Int) (s.toks + 1)) { s with toks := s.toks + 1 + 1 }) : wpAny (model prog w) A (call (.builtin "len") [.ref l]) Q E s := by
  subst hc
  exact len_list hl (by omega) h
end

def b64v (x : Int) : Int := if 65 ≤ x ∧ x ≤ 90 then x - 65 else if 97 ≤ x ∧ x ≤ 122 then x - 71 else if 48 ≤ x ∧ x ≤ 57 then x + 4 else if x = 43 then 62 else if x = 47 then 63 else 64
theorem b64v_1 {x : Int} (h : 65 ≤ x) (h' : x ≤ 90) : x - 65 = b64v x := (if_pos ⟨h, h'⟩).symm
theorem b64v_2 {x : Int} (h : 97 ≤ x) (h' : x ≤ 122) (n : ¬ x ≤ 90) : x - 71 = b64v x := ((if_neg fun e => n e.2).trans (if_pos ⟨h, h'⟩)).symm
theorem b64v_3 {x : Int} (h : 48 ≤ x) (h' : x ≤ 57) (n : ¬ 65 ≤ x) (n' : ¬ 97 ≤ x) : x + 4 = b64v x := ((if_neg fun e => n e.1).trans ((if_neg fun e => n' e.1).trans (if_pos ⟨h, h'⟩))).symm
theorem b64v_cases {x : Int} (h : b64v x < 64) : (65 ≤ x ∧ x ≤ 90) ∨ (97 ≤ x ∧ x ≤ 122) ∨ (48 ≤ x ∧ x ≤ 57) ∨ x = 43 ∨ x = 47 := by
  by_cases h1 : 65 ≤ x ∧ x ≤ 90
  · exact .inl h1
  by_cases h2 : 97 ≤ x ∧ x ≤ 122
  · exact .inr (.inl h2)
  by_cases h3 : 48 ≤ x ∧ x ≤ 57
  · exact .inr (.inr (.inl h3))
  by_cases h4 : x = 43
  · exact .inr (.inr (.inr (.inl h4)))
  by_cases h5 : x = 47
  · exact .inr (.inr (.inr (.inr h5)))
  unfold b64v at h
  rw [if_neg h1, if_neg h2, if_neg h3, if_neg h4, if_neg h5] at h
  exact absurd h (by decide)
set_option maxHeartbeats 4000000 in
theorem c_b64_value {w : World} {A : Around} {s : Shared} {Q E : Value → Shared → Prop} {p : Program} {loose : List Str} {mean : ExcName → Option Value} {mg mb : Str → Option Value} {x : Int} {t : Tok}
    (hx : b64v x < 64) (hh : A.handled = none) (hdp : A.depth ≤ 500) (X : (hd.heap_39 w.params).In s.heap) (T : Top p loose mean mg mb s.heap)
    (hQ : ∀ t' h' tk, s.heap.StaysIn h' → Q (.int (b64v x) t') { s with heap := h', toks := tk }) : wpAny (model PySem.Challenge.rw_ku0026_01.row.prog w) A (call (.ref 129) [.int x t]) Q E s := by
  (rename Frag.In _ _ => X'; revert X'; k_fill; intro X')
  (refine wpAny_call ?_; refine' enterS ?g1k1 ?g1k2 ?g1k3 ?g1k4 ?g1k5 ?g1k6 ?g1k7 ?g1k8 ?g1k9 ?g1k10 ?g1k11 ?_; (case g1k1 => assumption); (case g1k2 => assumption); (case g1k3 => k_is); (case g1k4 => k_is); (case g1k5 => first | exact room_of (by assumption) (by decide) | (show _ < recursionLimit; simp only [recursionLimit]; omega)); (case g1k6 => first | exact BindsTo.of_eq rfl | exact binds_K (by assumption) rfl (by k_is) rfl rfl rfl); (case g1k7 => exact locs rfl); (case g1k8 => exact rfl); (case g1k9 => exact rfl); (case g1k10 => exact rfl); (case g1k11 => decide); intro _ _ _ _; (try dsimp only); (try k_fold))
  rcases b64v_cases hx with ⟨h1, h2⟩ | ⟨h1, h2⟩ | ⟨h1, h2⟩ | h1 | h1 <;> clear hx
  · k_steps
    dsimp only; k_unfold; dsimp only
    exact retI (Q := Q) (b64v_1 h1 h2) (hQ _ _ _ (Fr.keep (by assumption)))
  · have n1 : 65 ≤ x := Int.le_trans (by decide) h1
    have n2 : ¬ x ≤ 90 := fun e => absurd (Int.le_trans h1 e) (by decide)
    k_steps
    dsimp only; k_unfold; dsimp only
    exact retI (Q := Q) (b64v_2 h1 h2 n2) (hQ _ _ _ (Fr.keep (by assumption)))
  · have n1 : ¬ 65 ≤ x := fun e => absurd (Int.le_trans e h2) (by decide)
    have n2 : ¬ 97 ≤ x := fun e => absurd (Int.le_trans e h2) (by decide)
    k_steps
    dsimp only; k_unfold; dsimp only
    exact retI (Q := Q) (b64v_3 h1 h2 n1 n2) (hQ _ _ _ (Fr.keep (by assumption)))
  · subst h1
    k_steps
    dsimp only; k_unfold; dsimp only
    exact retI (Q := Q) rfl (hQ _ _ _ (Fr.keep (by assumption)))
  · subst h1
    k_steps
    dsimp only; k_unfold; dsimp only
    exact retI (Q := Q) rfl (hQ _ _ _ (Fr.keep (by assumption)))

theorem log2_lt {x : Int} {n : Nat} (h0 : 0 ≤ x) (h : x < ((2 ^ n : Nat) : Int)) (hn : 0 < n) : x.natAbs.log2 < n := by
  by_cases z : x.natAbs = 0
  · rw [z]; simpa using hn
  · exact (Nat.log2_lt z).mpr (by omega)
set_option maxHeartbeats 4000000 in
theorem c_div2n1n {w : World} {A : Around} {s : Shared} {Q E : Value → Shared → Prop} {p : Program} {loose : List Str} {mean : ExcName → Option Value} {mg mb : Str → Option Value} {a b n : Int} {t t1 t2 : Tok}
    (hh : A.handled = none) (hdp : A.depth ≤ 500) (X : (hd.heap_39 w.params).In s.heap) (T : Top p loose mean mg mb s.heap)
    (hb : 0 < b) (hb2 : b < ((2 ^ 200 : Nat) : Int)) (ha0 : 0 ≤ a) (ha : a < ((2 ^ 200 : Nat) : Int)) (hn0 : 0 ≤ n)
    (hQ : ∀ c t' t'' h' tk, s.heap.StaysIn h' → s.heap.get? c = none → h'.get? c = some { cls := .type "tuple", data := .seq #[.int (a.fdiv b) t', .int (a.fmod b) t''] } → Q (.ref c) { s with heap := h', toks := tk }) :
    wpAny (model PySem.Challenge.rw_ku0026_01.row.prog w) A (call (.ref 45) [.int a t, .int b t1, .int n t2]) Q E s := by
  (rename Frag.In _ _ => X'; revert X'; k_fill; intro X')
  have hbn : b ≠ 0 := by omega
  have hbits : PySem.Builtin.Int.intBits a ≤ 200 := intBits_le_iff.mpr (by omega)
  have hpy := PyProof.noPylong_of_log2 (x := a) (y := b) (Nat.lt_trans (log2_lt (by omega) hb2 (by decide)) (by decide))
  clear hb2 ha
  (refine wpAny_call ?_; refine' enterS ?g2k1 ?g2k2 ?g2k3 ?g2k4 ?g2k5 ?g2k6 ?g2k7 ?g2k8 ?g2k9 ?g2k10 ?g2k11 ?_; (case g2k1 => assumption); (case g2k2 => assumption); (case g2k3 => k_is); (case g2k4 => k_is); (case g2k5 => first | exact room_of (by assumption) (by decide) | (show _ < recursionLimit; simp only [recursionLimit]; omega)); (case g2k6 => first | exact BindsTo.of_eq rfl | exact binds_K (by assumption) rfl (by k_is) rfl rfl rfl); (case g2k7 => exact locs rfl); (case g2k8 => exact rfl); (case g2k9 => exact rfl); (case g2k10 => exact rfl); (case g2k11 => decide); intro _ _ _ _; (try dsimp only); (try k_fold))
  k_steps
  refine divmod_N (by assumption) (by assumption) hbn ?_ (Or.inl hpy)
  intro h' F' N'
  k_unfold; dsimp only
  exact hQ _ _ _ _ _ F'.keep (N' _ (.head _)).2.2 (N' _ (.head _)).1

def stBody : Stmt → List Stmt | .FunctionDef _ _ b _ _ _ _ _ _ _ => b | _ => []
def stArgs : Stmt → Arguments | .FunctionDef _ a _ _ _ _ _ _ _ _ => a | _ => default
def stScope : Stmt → Scope | .FunctionDef _ _ _ _ _ _ s _ _ _ => s | _ => default
def inner1 : Stmt := (stBody (PySem.Challenge.pw_ku0026_01.main.body.getD 6 default)).getD 1 default
set_option maxHeartbeats 800000 in
theorem c_inner1 {w : World} {p : Program} {loose : List Str} {mean : ExcName → Option Value} {mg mb : Str → Option Value} {h₀ : Heap} {fi cN cI cA D cd : Addr} {doc pm ct : Value} {n : Nat} {tn : Tok} {qq : Str}
    (X : (hd.heap_39 w.params).In h₀) (T : Top p loose mean mg mb h₀) (C58 : CodeHd h₀ 58 54) (hn : 0 < n) (hn64 : n ≤ 64)
    (z1 : h₀.get? fi = none) (z2 : h₀.get? cN = none) (z3 : h₀.get? cI = none) (z4 : h₀.get? cA = none) (z5 : h₀.get? D = none) (z6 : h₀.get? cd = none)
    (n1 : @Ne Nat fi D) (n2 : @Ne Nat cd D) (n3 : @Ne Nat cN D) (n4 : @Ne Nat cI D) (n5 : @Ne Nat cA D)
    (m : Nat) : ∀ (A : Around) (s : Shared) (Q E : Value → Shared → Prop) (x l r : Int) (tx tl tr : Tok) (vs : List Value) (ns : List Int) (k : Nat) (oc oN oI oA : Obj) (ovs : Array Value) (tq : Tok),
      (r - l = ((m : Nat) : Int)) → 0 < m → 0 ≤ l → r ≤ ns.length → ns.length ≤ 200 → 0 ≤ x → x < ((2 ^ (n * m) : Nat) : Int) → n * m ≤ 600 →
      A.handled = none → A.depth + m ≤ 600 → A.units + 8 * m ≤ 9000 → h₀.StaysIn s.heap →
      (∀ q ∈ [(fi, ({ cls := .type "function", data := .func (fnX (Str.ofString "inner") qq (stArgs inner1) (stBody inner1) (stScope inner1) [(Str.ofString "n", cN), (Str.ofString "inner", cI), (Str.ofString "a_digits", cA)] .none .none doc pm none (.ref cd) ct) } : Obj)),
        (cd, oc), (cN, oN), (cI, oI), (cA, oA), (D, listOf vs.toArray k)], s.heap.get? q.1 = some q.2) →
      oN.data = .cell (some (.int n tn)) → oI.data = .cell (some (.ref fi)) → oA.data = .cell (some (.ref D)) → oc.data = .fields ovs → ovs[1]? = some (.str qq tq) → IntsAre vs ns →
      (∀ h' tk (vs' : List Value) k', (∀ b o, b ≠ D → s.heap.get? b = some o → h'.get? b = some o) → h'.get? D = some (listOf vs'.toArray k') → IntsAre vs' (ns.take l.toNat ++ digs n m x ++ ns.drop r.toNat) → Q .none { s with heap := h', toks := tk }) →
      wpAny (model PySem.Challenge.rw_ku0026_01.row.prog w) A (call (.ref fi) [.int x tx, .int l tl, .int r tr]) Q E s := by
  (rename Frag.In _ _ => X'; revert X'; k_fill; intro X')
  induction m using Nat.strongRecOn with
  | ind m ih =>
  intro A s Q E x l r tx tl tr vs ns k oc oN oI oA ovs tq hm hm0 hl hr hns hx0 hx hnm hh hdp hun st N hoN hoI hoA hod hov hi hQ
  refine wpAny_call ?_
  refine enterH (hid := [fi, cd, cN, cI, cA, D]) (by assumption) T st ?_ (N _ (.head _)) rfl ⟨_, _, _, _, rfl, N _ (.tail _ (.head _)), hod, hov⟩ (by (show _ < recursionLimit); simp only [recursionLimit]; omega) (BindsTo.of_eq rfl) (locs rfl) rfl rfl rfl (by decide) ?_
  · simp [*]
  intro g L' h₁ G F' hs hL X' T'
  have N' : News g L' h₁ _ := fun p hp => ⟨hs _ _ (N p hp), by rw [hL]; exact Nat.ne_of_lt (Heap.lt_size (N p hp)), by
    cases q : g.get? p.1 with
    | none => rfl
    | some o => exact absurd q (by rw [G.none p.1 (List.mem_map_of_mem (f := (·.1)) hp)]; nofun)⟩
  have C' := C58.keeps G.up
  clear C58
  rename Frag.In _ h₀ => X0
  clear X0
  conv in (stBody inner1) => whnf
  conv in (occs := *) (stScope inner1) => all_goals whnf
  (try dsimp only)
  k_unmd; k_fold
  have len := hi.length
  k_steps
  · dsimp only
    k_unfold
    rename IntsAre (vs.set _ _) _ => hi2
    rename Fr _ _ _ _ => F2
    rename News _ _ _ _ => N2
    rename l + 1 = r => e1
    have m1 : m = 1 := by omega
    subst m1
    refine hQ _ _ _ _ (keep_but (l := [_, _, _, _, _, _]) G F2 N ?_) (N2 (D, _) (by k_mem)).1 ?_
    · intro q hq hb
      simp only [List.mem_cons, List.not_mem_nil, or_false] at hq
      rcases hq with rfl | rfl | rfl | rfl | rfl | rfl
      iterate 5 exact (N2 _ (by k_mem)).1
      exact absurd rfl hb
    · rw [digs_one hx0 hx]
      have e2 : r.toNat = l.toNat + 1 := by omega
      rw [e2, List.append_assoc]
      have := List.set_eq_take_append_cons_drop (l := ns) (i := l.toNat) (a := x)
      rw [if_pos (by omega)] at this
      rw [this] at hi2
      exact hi2
  · generalize hmid : (l + r).fdiv (2 ^ Int.toNat 1) = mid at *
    have hmid' : mid = (l + r) / 2 := by rw [← hmid, show (2 ^ Int.toNat 1 : Int) = 2 from rfl, Int.fdiv_eq_ediv_of_nonneg _ (by decide)]
    clear hmid
    obtain ⟨j, hj⟩ : ∃ j : Nat, mid - l = (j : Int) := ⟨(mid - l).toNat, by omega⟩
    have hsh : (mid - l) * (n : Int) = ((n * j : Nat) : Int) := by rw [hj, Nat.mul_comm]; simp
    refine rshift_k hsh ?_
    have hj0 : 0 < j := by omega
    have hjm : j < m := by omega
    have hp1 := pow_pos' (n * j)
    have hup0 : 0 ≤ x / ((2 ^ (n * j) : Nat) : Int) := Int.ediv_nonneg hx0 (Int.le_of_lt hp1)
    have hup : x / ((2 ^ (n * j) : Nat) : Int) < ((2 ^ (n * (m - j)) : Nat) : Int) := by
      refine Int.ediv_lt_of_lt_mul hp1 ?_
      have : 2 ^ (n * (m - j)) * 2 ^ (n * j) = 2 ^ (n * m) := by rw [← Nat.pow_add, ← Nat.mul_add]; congr 2; omega
      rw [← Int.natCast_mul, this]; exact hx
    have hnj : n * j ≤ 600 := Nat.le_trans (Nat.mul_le_mul_left n (Nat.le_of_lt hjm)) hnm
    have hbig : (x / ((2 ^ (n * j) : Nat) : Int)).natAbs < 2 ^ 1000 := by
      have : 2 ^ (n * (m - j)) ≤ 2 ^ 1000 := Nat.pow_le_pow_right (by decide) (by have := Nat.mul_le_mul_left n (Nat.sub_le m j); omega)
      omega
    k_steps
    refine lshift_k hsh hbig (by omega) ?_
    refine xor_low hx0 ?_
    k_steps
    rename Fr _ _ _ _ => F2
    rename News _ _ _ _ => N2
    refine ih j hjm _ _ _ _ _ _ _ _ _ _ vs ns k oc oN oI oA ovs tq hj hj0 hl (by omega) hns (Int.emod_nonneg _ (by omega)) (Int.emod_lt_of_pos _ hp1) hnj hh (by show A.depth + 1 + j ≤ 600; omega) (by show A.units + 3 + 8 * j ≤ 9000; omega) (fun b o e => F2.keep _ _ (G.up _ _ e)) (fun q hq => (N2 q hq).1) hoN hoI hoA hod hov hi ?_
    intro h3 tk3 vs3 k3 hk3 hD3 hi3
    have F3 := Fr_but F2 hk3 (G.none D (by simp)) (N2 (D, _) (by k_mem)).2.1.symm
    have N3 := news_but (pre := [_, _, _, _, _]) (post := []) N2 hk3 hD3 (by k_all) (by k_all)
    dsimp only [List.cons_append, List.nil_append] at N3
    clear F2 N2
    have len3 : (ns.take l.toNat ++ digs n j (x % ((2 ^ (n * j) : Nat) : Int)) ++ ns.drop mid.toNat).length = ns.length := by
      simp only [List.length_append, List.length_take, List.length_drop, digs_length]; omega
    k_steps
    rename Fr _ _ _ _ => F2
    rename News _ _ _ _ => N2
    refine ih (m - j) (by omega) _ _ _ _ _ _ _ _ _ _ vs3 _ k3 oc oN oI oA ovs tq (by omega) (by omega) (by omega) (by rw [len3]; exact hr) (by rw [len3]; exact hns) hup0 hup (Nat.le_trans (Nat.mul_le_mul_left n (Nat.sub_le m j)) hnm) hh (by show A.depth + 1 + (m - j) ≤ 600; omega) (by show A.units + 3 + 8 * (m - j) ≤ 9000; omega) (fun b o e => F2.keep _ _ (G.up _ _ e)) (fun q hq => (N2 q hq).1) hoN hoI hoA hod hov hi3 ?_
    intro h4 tk4 vs4 k4 hk4 hD4 hi4
    have F4 := Fr_but F2 hk4 (G.none D (by simp)) (N2 (D, _) (by k_mem)).2.1.symm
    have N4 := news_but (pre := [_, _, _, _, _]) (post := []) N2 hk4 hD4 (by k_all) (by k_all)
    dsimp only [List.cons_append, List.nil_append] at N4
    clear F2 N2
    k_steps
    refine hQ _ _ _ _ (keep_but (l := [_, _, _, _, _, _]) G F4 N ?_) hD4 ?_
    · intro q hq hb
      simp only [List.mem_cons, List.not_mem_nil, or_false] at hq
      rcases hq with rfl | rfl | rfl | rfl | rfl | rfl
      iterate 5 exact (N4 _ (by k_mem)).1
      exact absurd rfl hb
    · rw [split_digs (digs_length n j _) (by omega) (by omega) (by omega), ← digs_append n j (m - j) x hx0, show j + (m - j) = m by omega] at hi4
      exact hi4

-- how many digits to the base 2^n
def cnt (n : Nat) (a : Int) : Nat := (PySem.Builtin.Int.intBits a + n - 1) / n
theorem cnt_cast {n : Nat} (a : Int) (hn : 0 < n) : (((PySem.Builtin.Int.intBits a : Nat) : Int) + (n : Int) - 1).fdiv (n : Int) = ((cnt n a : Nat) : Int) := by
  rw [Int.fdiv_eq_ediv_of_nonneg _ (Int.natCast_nonneg n)]
  unfold cnt
  have e : ((PySem.Builtin.Int.intBits a : Nat) : Int) + (n : Int) - 1 = ((PySem.Builtin.Int.intBits a + n - 1 : Nat) : Int) := by omega
  rw [e]
  simp
theorem cnt_le {n : Nat} {a : Int} {b : Nat} (hn : 0 < n) (hb : PySem.Builtin.Int.intBits a ≤ b) : cnt n a ≤ b := by
  unfold cnt
  refine Nat.le_trans (Nat.div_le_div_right (Nat.sub_le_sub_right (Nat.add_le_add_right hb n) 1)) ?_
  rcases b with _ | b
  · rw [Nat.zero_add, Nat.div_eq_of_lt (by omega)]; exact Nat.zero_le _
  · refine Nat.le_of_lt_succ ((Nat.div_lt_iff_lt_mul hn).mpr ?_)
    have h1 : b + 1 ≤ (b + 1) * n := Nat.le_mul_of_pos_right _ hn
    have h2 : (b + 1 + 1) * n = (b + 1) * n + n := by rw [Nat.add_mul, Nat.one_mul]
    show b + 1 + n - 1 < (b + 1 + 1) * n
    omega
theorem cnt_mul {n : Nat} {a : Int} (hn : 0 < n) : n * cnt n a ≤ PySem.Builtin.Int.intBits a + n - 1 := by
  unfold cnt
  exact Nat.mul_div_le _ _
theorem cnt_big {n : Nat} {a : Int} (hn : 0 < n) : PySem.Builtin.Int.intBits a ≤ n * cnt n a := by
  unfold cnt
  have := Nat.div_add_mod (PySem.Builtin.Int.intBits a + n - 1) n
  have h2 := Nat.mod_lt (PySem.Builtin.Int.intBits a + n - 1) hn
  omega
theorem lt_cnt {n : Nat} {a : Int} (hn : 0 < n) (h0 : 0 ≤ a) : a < ((2 ^ (n * cnt n a) : Nat) : Int) := by
  have h1 := intBits_le_iff.mp (Nat.le_refl (PySem.Builtin.Int.intBits a))
  have h2 : 2 ^ PySem.Builtin.Int.intBits a ≤ 2 ^ (n * cnt n a) := Nat.pow_le_pow_right (by decide) (cnt_big hn)
  omega
theorem cnt_pos {n : Nat} {a : Int} (hn : 0 < n) (h0 : a ≠ 0) : 0 < cnt n a := by
  refine Nat.pos_of_ne_zero fun h => ?_
  have h1 := cnt_big (a := a) hn
  rw [h, Nat.mul_zero] at h1
  have h2 := intBits_le_iff.mp h1
  omega
theorem cnt_zero {n : Nat} (hn : 0 < n) : cnt n 0 = 0 := by
  unfold cnt
  rw [show PySem.Builtin.Int.intBits 0 = 0 from rfl, Nat.zero_add]
  exact Nat.div_eq_of_lt (by omega)

set_option maxHeartbeats 1600000 in
theorem c_int2digits {w : World} {A : Around} {s : Shared} {Q E : Value → Shared → Prop} {p : Program} {loose : List Str} {mean : ExcName → Option Value} {mg mb : Str → Option Value} {G0 : Heap} {a : Int} {n : Nat} {t t1 : Tok}
    (X : (hd.heap_39 w.params).In G0) (T : Top p loose mean mg mb G0) (C58 : CodeHd G0 58 54) (st : G0.StaysIn s.heap) (z54 : G0.get? 54 = none) (S : St54 G0 s.heap)
    (hh : A.handled = none) (hdp : A.depth ≤ 390) (hun : A.units ≤ 5000) (hn : 0 < n) (hn64 : n ≤ 64) (ha0 : 0 ≤ a) (ha : a < ((2 ^ 200 : Nat) : Int))
    (hQ : ∀ l h' tk (vs : List Value) k, (∀ b o, b ≠ 54 → s.heap.get? b = some o → h'.get? b = some o) → St54 G0 h' → s.heap.get? l = none → h'.get? l = some (listOf vs.toArray k) → IntsAre vs (digs n (cnt n a) a) → Q (.ref l) { s with heap := h', toks := tk }) :
    wpAny (model PySem.Challenge.rw_ku0026_01.row.prog w) A (call (.ref 59) [.int a t, .int n t1]) Q E s := by
  (rename Frag.In _ _ => X'; revert X'; k_fill; intro X')
  have hbits : PySem.Builtin.Int.intBits a ≤ 200 := intBits_le_iff.mpr (by omega)
  have hc200 := cnt_le hn hbits
  have hn0 : (n : Int) ≠ 0 := by omega
  have hcc := cnt_cast a hn
  clear ha
  rcases S with S | ⟨cd, oc, vsc, tq, S, hoc, hod, hov, hcd, zcd⟩
  · refine wpAny_call ?_
    refine enterC (hid := [54]) (by assumption) T st (by simpa using z54) (by k_is) (by k_is) (by (show _ < recursionLimit); simp only [recursionLimit]; omega) (BindsTo.of_eq rfl) rfl (by decide +kernel) rfl rfl rfl ?_
    intro g L' h₁ tk cells G F' N' Y hs hL X' T'
    k_cells Y
    have N'' := news_hid [(54, tabObj #[])] G N' hs hL (by simpa using S) (by simp)
    (try simp only [List.cons_append, List.nil_append] at N'')
    clear N'
    have lt54 : @LT.lt Nat _ 54 L' := by rw [hL]; exact Heap.lt_size S
    have C' := C58.keeps G.up
    rename Frag.In _ G0 => X0
    (try dsimp only)
    k_unmd
    k_fold
    k_steps
    · rename Fr _ _ _ _ => F2
      rename News _ _ _ _ => N2
      refine len_n (isList_news N2 (by k_mem)) (by simp; rfl) (by omega) ?_
      k_steps
      refine' c_inner1 (h₀ := G0) X0 T C58 hn hn64 ?z1 ?z2 ?z3 ?z4 ?z5 ?z6 ?n1 ?n2 ?n3 ?n4 ?n5 (cnt n a) _ _ _ _ a 0 (cnt n a) _ _ _ (List.replicate (cnt n a) (.int 0 _)) (List.replicate (cnt n a) 0) 0 _ _ _ _ _ _ (by omega) (cnt_pos hn (by assumption)) (by omega) (by simp) (by simp; omega) ha0 (lt_cnt hn ha0) ?k1 hh ?k2 ?k3 ?k4 ?kN ?d1 ?d2 ?d3 ?d4 ?d5 (ints_replicate _ _ _) ?_
      case kN => exact List.forall_mem_cons.mpr ⟨(N2 _ (by k_mem)).1, List.forall_mem_cons.mpr ⟨(N2 _ (by k_mem)).1, List.forall_mem_cons.mpr ⟨(N2 _ (by k_mem)).1, List.forall_mem_cons.mpr ⟨(N2 _ (by k_mem)).1, List.forall_mem_cons.mpr ⟨(N2 _ (by k_mem)).1, List.forall_mem_cons.mpr ⟨(N2 _ (by k_mem)).1, List.forall_mem_nil _⟩⟩⟩⟩⟩⟩
      case d1 => assumption
      case d2 => assumption
      case d3 => assumption
      case d4 => assumption
      case d5 => assumption
      all_goals try (first | exact G.up_none (N2 (_, _) (by k_mem)).2.2 | assumption)
      case n1 => exact neN (by omega)
      case n2 => exact neN (by omega)
      case n3 => exact neN (by omega)
      case n4 => exact neN (by omega)
      case n5 => exact neN (by omega)
      case k1 => have := cnt_mul (a := a) hn; omega
      case k2 => (show A.depth + 1 + cnt n a ≤ 600); omega
      case k3 => (show A.units + 3 + 8 * cnt n a ≤ 9000); omega
      case k4 => exact fun b o e => F2.keep _ _ (G.up _ _ e)
      intro h3 tk3 vs3 k3 hk3 hD3 hI3
      have F3 := Fr_but F2 hk3 (N2 (_, _) (by k_mem)).2.2 (N2 (_, _) (by k_mem)).2.1.symm
      have N3 := news_but (pre := [_, _]) N2 hk3 hD3 (by k_all) (by k_all)
      dsimp only [List.cons_append, List.nil_append] at N3
      clear F2 N2
      k_steps
      (try dsimp only); (try k_unfold); (try dsimp only)
      refine' hQ _ _ _ _ _ (keep_but (l := [(54, _)]) G F3 (by simpa using S) (by simp)) (tab_right (N3 (54, _) (by k_mem)).1 (N3 (_, _) (by k_mem)).1 (by assumption) (by assumption) (by kernel_rfl) (neN (by omega)) (G.up_none (N3 (_, _) (by k_mem)).2.2)) (G.sub_none N3 (by k_mem) (by simp only [List.mem_singleton]; exact neN (by omega))) hD3 ?kI
      case kI => simpa using hI3
    · rename a = 0 => ha0'
      subst ha0'
      rename Fr _ _ _ _ => F3
      rename News _ _ _ _ => N3
      (try dsimp only); (try k_unfold); (try dsimp only)
      refine' hQ _ _ _ _ _ (keep_but (l := [(54, _)]) G F3 (by simpa using S) (by simp)) (tab_right (N3 (54, _) (by k_mem)).1 (N3 (_, _) (by k_mem)).1 (by assumption) (by assumption) (by kernel_rfl) (neN (by omega)) (G.up_none (N3 (_, _) (by k_mem)).2.2)) (G.sub_none N3 (by k_mem) (by simp only [List.mem_singleton]; exact neN (by omega))) (N3 (_, _) (by k_mem)).1 ?kJ
      case kJ => rw [cnt_zero hn]; exact .nil
  · refine wpAny_call ?_
    refine enterC (hid := [54, cd]) (by assumption) T st (by simp [z54, zcd]) (by k_is) (by k_is) (by (show _ < recursionLimit); simp only [recursionLimit]; omega) (BindsTo.of_eq rfl) rfl (by decide +kernel) rfl rfl rfl ?_
    intro g L' h₁ tk cells G F' N' Y hs hL X' T'
    k_cells Y
    have N'' := news_hid [(54, tabObj #[rawInt 36, rawInt 4, .ref cd]), (cd, oc)] G N' hs hL (by simp [S, hoc]) (by simp)
    (try simp only [List.cons_append, List.nil_append] at N'')
    clear N'
    have lt54 : @LT.lt Nat _ 54 L' := by rw [hL]; exact Heap.lt_size S
    have ltcd : @LT.lt Nat _ cd L' := by rw [hL]; exact Heap.lt_size hoc
    have C' := C58.keeps G.up
    rename Frag.In _ G0 => X0
    (try dsimp only)
    k_unmd
    k_fold
    k_steps
    · rename Fr _ _ _ _ => F2
      rename News _ _ _ _ => N2
      refine len_n (isList_news N2 (by k_mem)) (by simp; rfl) (by omega) ?_
      k_steps
      refine' c_inner1 (h₀ := G0) X0 T C58 hn hn64 ?z1y ?z2y ?z3y ?z4y ?z5y ?z6y ?n1y ?n2y ?n3y ?n4y ?n5y (cnt n a) _ _ _ _ a 0 (cnt n a) _ _ _ (List.replicate (cnt n a) (.int 0 _)) (List.replicate (cnt n a) 0) 0 _ _ _ _ _ tq (by omega) (cnt_pos hn (by assumption)) (by omega) (by simp) (by simp; omega) ha0 (lt_cnt hn ha0) ?k1y hh ?k2y ?k3y ?k4y ?kNy ?d1y ?d2y ?d3y ?d4y ?d5y (ints_replicate _ _ _) ?_
      case kNy => exact List.forall_mem_cons.mpr ⟨(N2 _ (by k_mem)).1, List.forall_mem_cons.mpr ⟨(N2 _ (by k_mem)).1, List.forall_mem_cons.mpr ⟨(N2 _ (by k_mem)).1, List.forall_mem_cons.mpr ⟨(N2 _ (by k_mem)).1, List.forall_mem_cons.mpr ⟨(N2 _ (by k_mem)).1, List.forall_mem_cons.mpr ⟨(N2 _ (by k_mem)).1, List.forall_mem_nil _⟩⟩⟩⟩⟩⟩
      case d1y => assumption
      case d2y => assumption
      case d3y => assumption
      case d4y => assumption
      case d5y => exact str_eq hov (by kernel_rfl)
      all_goals try (first | exact G.up_none (N2 (_, _) (by k_mem)).2.2 | assumption)
      case n1y => exact neN (by omega)
      case n2y => exact neN (by omega)
      case n3y => exact neN (by omega)
      case n4y => exact neN (by omega)
      case n5y => exact neN (by omega)
      case k1y => have := cnt_mul (a := a) hn; omega
      case k2y => (show A.depth + 1 + cnt n a ≤ 600); omega
      case k3y => (show A.units + 3 + 8 * cnt n a ≤ 9000); omega
      case k4y => exact fun b o e => F2.keep _ _ (G.up _ _ e)
      intro h3 tk3 vs3 k3 hk3 hD3 hI3
      have F3 := Fr_but F2 hk3 (N2 (_, _) (by k_mem)).2.2 (N2 (_, _) (by k_mem)).2.1.symm
      have N3 := news_but (pre := [_]) N2 hk3 hD3 (by k_all) (by k_all)
      dsimp only [List.cons_append, List.nil_append] at N3
      clear F2 N2
      k_steps
      (try dsimp only); (try k_unfold); (try dsimp only)
      refine' hQ _ _ _ _ _ (keep_but (l := [(54, tabObj #[rawInt 36, rawInt 4, .ref cd]), (cd, oc)]) G F3 (by simp [S, hoc]) (by simp [(N3 (cd, oc) (by k_mem)).1])) (tab_right (N3 (54, _) (by k_mem)).1 (N3 (cd, oc) (by k_mem)).1 hod hov rfl hcd zcd) (G.sub_none N3 (by k_mem) (by simp only [List.mem_cons, List.not_mem_nil, or_false, not_or]; exact ⟨neN (by omega), neN (by omega)⟩)) hD3 ?kIy
      case kIy => simpa using hI3
    · rename a = 0 => ha0'
      subst ha0'
      rename Fr _ _ _ _ => F3
      rename News _ _ _ _ => N3
      (try dsimp only); (try k_unfold); (try dsimp only)
      refine' hQ _ _ _ _ _ (keep_but (l := [(54, tabObj #[rawInt 36, rawInt 4, .ref cd]), (cd, oc)]) G F3 (by simp [S, hoc]) (by simp [(N3 (cd, oc) (by k_mem)).1])) (tab_right (N3 (54, _) (by k_mem)).1 (N3 (cd, oc) (by k_mem)).1 hod hov rfl hcd zcd) (G.sub_none N3 (by k_mem) (by simp only [List.mem_cons, List.not_mem_nil, or_false, not_or]; exact ⟨neN (by omega), neN (by omega)⟩)) (N3 (_, _) (by k_mem)).1 ?kJy
      case kJy => rw [cnt_zero hn]; exact .nil

def inner2 : Stmt := (stBody (PySem.Challenge.pw_ku0026_01.main.body.getD 7 default)).getD 0 default
set_option maxHeartbeats 1600000 in
theorem c_inner2 {w : World} {p : Program} {loose : List Str} {mean : ExcName → Option Value} {mg mb : Str → Option Value} {h₀ : Heap} {fi cN cI cA D cd : Addr} {doc pm ct : Value} {n : Nat} {tn : Tok} {qq : Str}
    (X : (hd.heap_39 w.params).In h₀) (T : Top p loose mean mg mb h₀) (C65 : CodeHd h₀ 65 61) (hn : 0 < n) (hn64 : n ≤ 64)
    (z1 : h₀.get? fi = none) (z2 : h₀.get? cN = none) (z3 : h₀.get? cI = none) (z4 : h₀.get? cA = none) (z5 : h₀.get? D = none) (z6 : h₀.get? cd = none)
    (vs : List Value) (ns : List Int) (k : Nat) (hi : IntsAre vs ns) (hns : ns.length ≤ 200) (hb : ∀ d ∈ ns, 0 ≤ d ∧ d < ((2 ^ n : Nat) : Int)) (hnn : n * ns.length ≤ 900)
    (m : Nat) : ∀ (A : Around) (s : Shared) (Q E : Value → Shared → Prop) (l r : Int) (tl tr : Tok) (oc oN oI oA : Obj) (ovs : Array Value) (tq : Tok),
      (r - l = ((m : Nat) : Int)) → 0 < m → 0 ≤ l → r ≤ ns.length →
      A.handled = none → A.depth + m ≤ 600 → A.units + 8 * m ≤ 9000 → h₀.StaysIn s.heap →
      (∀ q ∈ [(fi, ({ cls := .type "function", data := .func (fnX (Str.ofString "inner") qq (stArgs inner2) (stBody inner2) (stScope inner2) [(Str.ofString "n", cN), (Str.ofString "inner", cI), (Str.ofString "digits", cA)] .none .none doc pm none (.ref cd) ct) } : Obj)),
        (cd, oc), (cN, oN), (cI, oI), (cA, oA), (D, listOf vs.toArray k)], s.heap.get? q.1 = some q.2) →
      oN.data = .cell (some (.int n tn)) → oI.data = .cell (some (.ref fi)) → oA.data = .cell (some (.ref D)) → oc.data = .fields ovs → ovs[1]? = some (.str qq tq) →
      (∀ t' h' tk, s.heap.StaysIn h' → Q (.int (undigs n ((ns.drop l.toNat).take m)) t') { s with heap := h', toks := tk }) →
      wpAny (model PySem.Challenge.rw_ku0026_01.row.prog w) A (call (.ref fi) [.int l tl, .int r tr]) Q E s := by
  (rename Frag.In _ _ => X'; revert X'; k_fill; intro X')
  induction m using Nat.strongRecOn with
  | ind m ih =>
  intro A s Q E l r tl tr oc oN oI oA ovs tq hm hm0 hl hr hh hdp hun st N hoN hoI hoA hod hov hQ
  refine wpAny_call ?_
  refine enterH (hid := [fi, cd, cN, cI, cA, D]) (by assumption) T st ?_ (N _ (.head _)) rfl ⟨_, _, _, _, rfl, N _ (.tail _ (.head _)), hod, hov⟩ (by (show _ < recursionLimit); simp only [recursionLimit]; omega) (BindsTo.of_eq rfl) (locs rfl) rfl rfl rfl (by decide) ?_
  · simp [*]
  intro g L' h₁ G F' hs hL X' T'
  have N' : News g L' h₁ _ := fun p hp => ⟨hs _ _ (N p hp), by rw [hL]; exact Nat.ne_of_lt (Heap.lt_size (N p hp)), by
    cases q : g.get? p.1 with
    | none => rfl
    | some o => exact absurd q (by rw [G.none p.1 (List.mem_map_of_mem (f := (·.1)) hp)]; nofun)⟩
  have C' := C65.keeps G.up
  clear C65
  rename Frag.In _ h₀ => X0
  clear X0
  conv in (stBody inner2) => whnf
  conv in (occs := *) (stScope inner2) => all_goals whnf
  (try dsimp only)
  k_unmd; k_fold
  have len := hi.length
  k_steps
  · rename l + 1 = r => e1
    rename Fr _ _ _ _ => F2
    rename News _ _ _ _ => N2
    (try dsimp only); (try k_unfold); (try dsimp only)
    have m1 : m = 1 := by omega
    subst m1
    refine retI (Q := Q) ?_ (hQ _ _ _ (fun b o e => ?_))
    · have hlt : l.toNat < ns.length := by omega
      rw [List.drop_eq_getElem_cons hlt, List.take_succ_cons, List.take_zero, List.getD_eq_getElem?_getD, List.getElem?_eq_getElem hlt]
      simp [undigs]
    · by_cases hm' : b ∈ [fi, cd, cN, cI, cA, D]
      · simp only [List.mem_cons, List.not_mem_nil, or_false] at hm'
        rcases hm' with rfl | rfl | rfl | rfl | rfl | rfl <;> (rw [N (_, _) (by k_mem)] at e; cases e; exact (N2 (_, _) (by k_mem)).1)
      · exact F2.keep _ _ (G.keep _ _ hm' e)
  · generalize hmid : (l + r).fdiv (2 ^ Int.toNat 1) = mid at *
    have hmid' : mid = (l + r) / 2 := by rw [← hmid, show (2 ^ Int.toNat 1 : Int) = 2 from rfl, Int.fdiv_eq_ediv_of_nonneg _ (by decide)]
    clear hmid
    obtain ⟨j, hj⟩ : ∃ j : Nat, mid - l = (j : Int) := ⟨(mid - l).toNat, by omega⟩
    have hsh : (mid - l) * (n : Int) = ((n * j : Nat) : Int) := by rw [hj, Nat.mul_comm]; simp
    have hj0 : 0 < j := by omega
    have hjm : j < m := by omega
    have hnj : n * j ≤ 900 := Nat.le_trans (Nat.mul_le_mul_left n (by omega)) hnn
    have hup := undigs_bound n ((ns.drop mid.toNat).take (m - j)) (fun d hd => hb d (List.mem_of_mem_drop (List.mem_of_mem_take hd)))
    have hbig : (undigs n ((ns.drop mid.toNat).take (m - j))).natAbs < 2 ^ 1000 := by
      have h1 : ((ns.drop mid.toNat).take (m - j)).length ≤ ns.length := by simp; omega
      have : 2 ^ (n * ((ns.drop mid.toNat).take (m - j)).length) ≤ 2 ^ 1000 := Nat.pow_le_pow_right (by decide) (Nat.le_trans (Nat.mul_le_mul_left n h1) (by omega))
      omega
    rename Fr _ _ _ _ => F2
    rename News _ _ _ _ => N2
    refine ih (m - j) (by omega) _ _ _ _ _ _ _ _ oc oN oI oA ovs tq (by omega) (by omega) (by omega) hr hh (by show A.depth + 1 + (m - j) ≤ 600; omega) (by show A.units + 3 + 8 * (m - j) ≤ 9000; omega) (fun b o e => F2.keep _ _ (G.up _ _ e)) (fun q hq => (N2 q hq).1) hoN hoI hoA hod hov ?_
    intro t3 h3 tk3 st3
    have F3 := F2.keeps st3
    have N3 := N2.grown st3
    clear F2 N2
    k_steps
    refine lshift_k hsh hbig (by omega) ?_
    k_steps
    rename Fr _ _ _ _ => F2
    rename News _ _ _ _ => N2
    refine ih j hjm _ _ _ _ _ _ _ _ oc oN oI oA ovs tq hj hj0 hl (by omega) hh (by show A.depth + 1 + j ≤ 600; omega) (by show A.units + 3 + 8 * j ≤ 9000; omega) (fun b o e => F2.keep _ _ (G.up _ _ e)) (fun q hq => (N2 q hq).1) hoN hoI hoA hod hov ?_
    intro t4 h4 tk4 st4
    have F4 := F2.keeps st4
    have N4 := N2.grown st4
    clear F2 N2
    k_steps
    (try dsimp only); (try k_unfold); (try dsimp only)
    refine retI (Q := Q) ?_ (hQ _ _ _ (fun b o e => ?_))
    · have e3 : mid.toNat = l.toNat + j := by omega
      rw [e3]
      exact undigs_split (by omega) (by omega)
    · by_cases hm' : b ∈ [fi, cd, cN, cI, cA, D]
      · simp only [List.mem_cons, List.not_mem_nil, or_false] at hm'
        rcases hm' with rfl | rfl | rfl | rfl | rfl | rfl <;> (rw [N (_, _) (by k_mem)] at e; cases e; exact (N4 (_, _) (by k_mem)).1)
      · exact F4.keep _ _ (G.keep _ _ hm' e)

set_option maxHeartbeats 1600000 in
theorem c_digits2int {w : World} {A : Around} {s : Shared} {Q E : Value → Shared → Prop} {p : Program} {loose : List Str} {mean : ExcName → Option Value} {mg mb : Str → Option Value} {G0 : Heap} {n : Nat} {t1 : Tok} {D : Addr} {vs : List Value} {ns : List Int} {k : Nat}
    (X : (hd.heap_39 w.params).In G0) (T : Top p loose mean mg mb G0) (C65 : CodeHd G0 65 61) (st : G0.StaysIn s.heap) (z61 : G0.get? 61 = none) (S : St61 G0 s.heap)
    (hh : A.handled = none) (hdp : A.depth ≤ 390) (hun : A.units ≤ 5000) (hn : 0 < n) (hn64 : n ≤ 64) (hD : s.heap.get? D = some (listOf vs.toArray k)) (zD : G0.get? D = none)
    (hi : IntsAre vs ns) (hns : ns.length ≤ 200) (hb : ∀ d ∈ ns, 0 ≤ d ∧ d < ((2 ^ n : Nat) : Int)) (hnn : n * ns.length ≤ 900)
    (hQ : ∀ t' h' tk, (∀ b o, b ≠ 61 → s.heap.get? b = some o → h'.get? b = some o) → St61 G0 h' → Q (.int (undigs n ns) t') { s with heap := h', toks := tk }) :
    wpAny (model PySem.Challenge.rw_ku0026_01.row.prog w) A (call (.ref 66) [.ref D, .int n t1]) Q E s := by
  (rename Frag.In _ _ => X'; revert X'; k_fill; intro X')
  have hvl : vs.toArray.size = ns.length := by rw [List.size_toArray]; exact hi.length
  rcases S with S | ⟨cd, oc, vsc, tq, S, hoc, hod, hov, hcd, zcd⟩
  · have D61 : @Ne Nat D 61 := fun e => by rw [e, S] at hD; cases hD
    refine wpAny_call ?_
    refine enterC (hid := [61, D]) (by assumption) T st (by simp [z61, zD]) (by k_is) (by k_is) (by (show _ < recursionLimit); simp only [recursionLimit]; omega) (BindsTo.of_eq rfl) rfl (by decide +kernel) rfl rfl rfl ?_
    intro g L' h₁ tk cells G F' N' Y hs hL X' T'
    k_cells Y
    have N'' := news_hid [(61, tabObj #[]), (D, listOf vs.toArray k)] G N' hs hL (by simp [S, hD]) (by simp)
    (try simp only [List.cons_append, List.nil_append] at N'')
    clear N'
    have lt61 : @LT.lt Nat _ 61 L' := by rw [hL]; exact Heap.lt_size S
    have ltD : @LT.lt Nat _ D L' := by rw [hL]; exact Heap.lt_size hD
    have C' := C65.keeps G.up
    rename Frag.In _ G0 => X0
    (try dsimp only)
    k_unmd
    k_fold
    k_steps
    · rename Fr _ _ _ _ => F2
      rename News _ _ _ _ => N2
      refine' c_inner2 (h₀ := G0) X0 T C65 hn hn64 ?z1 ?z2 ?z3 ?z4 zD ?z6 vs ns k hi hns hb hnn ns.length _ _ _ _ 0 _ _ _ _ _ _ _ _ _ (by omega) (by assumption) (by omega) (by omega) hh ?k2 ?k3 ?k4 ?kN ?d1 ?d2 ?d3 ?d4 ?d5 ?_
      case kN => exact List.forall_mem_cons.mpr ⟨(N2 _ (by k_mem)).1, List.forall_mem_cons.mpr ⟨(N2 _ (by k_mem)).1, List.forall_mem_cons.mpr ⟨(N2 _ (by k_mem)).1, List.forall_mem_cons.mpr ⟨(N2 _ (by k_mem)).1, List.forall_mem_cons.mpr ⟨(N2 _ (by k_mem)).1, List.forall_mem_cons.mpr ⟨(N2 (D, _) (by k_mem)).1, List.forall_mem_nil _⟩⟩⟩⟩⟩⟩
      case d1 => assumption
      case d2 => assumption
      case d3 => assumption
      case d4 => assumption
      case d5 => assumption
      all_goals try (exact G.up_none (N2 (_, _) (by k_mem)).2.2)
      case k2 => (show A.depth + 1 + ns.length ≤ 600); omega
      case k3 => (show A.units + 3 + 8 * ns.length ≤ 9000); omega
      case k4 => exact fun b o e => F2.keep _ _ (G.up _ _ e)
      intro t3 h3 tk3 st3
      have F3 := F2.keeps st3
      have N3 := N2.grown st3
      clear F2 N2
      k_steps
      (try dsimp only); (try k_unfold); (try dsimp only)
      refine retI (Q := Q) ?_ (hQ _ _ _ (keep_but (l := [(61, tabObj #[]), (D, listOf vs.toArray k)]) G F3 (by simp [S, hD]) (by simp [(N3 (D, _) (by k_mem)).1])) (tab_right (N3 (61, _) (by k_mem)).1 (N3 (_, _) (by k_mem)).1 (by assumption) (by assumption) (by kernel_rfl) (neN (by omega)) (G.up_none (N3 (_, _) (by k_mem)).2.2)))
      simp
    · rename Fr _ _ _ _ => F3
      rename News _ _ _ _ => N3
      (try dsimp only); (try k_unfold); (try dsimp only)
      have hnil : ns = [] := List.eq_nil_of_length_eq_zero (by omega)
      refine retI (Q := Q) ?_ (hQ _ _ _ (keep_but (l := [(61, tabObj #[]), (D, listOf vs.toArray k)]) G F3 (by simp [S, hD]) (by simp [(N3 (D, _) (by k_mem)).1])) (tab_right (N3 (61, _) (by k_mem)).1 (N3 (_, _) (by k_mem)).1 (by assumption) (by assumption) (by kernel_rfl) (neN (by omega)) (G.up_none (N3 (_, _) (by k_mem)).2.2)))
      rw [hnil]; rfl
  · have D61 : @Ne Nat D 61 := fun e => by rw [e, S] at hD; cases hD
    refine wpAny_call ?_
    refine enterC (hid := [61, D, cd]) (by assumption) T st (by simp [z61, zD, zcd]) (by k_is) (by k_is) (by (show _ < recursionLimit); simp only [recursionLimit]; omega) (BindsTo.of_eq rfl) rfl (by decide +kernel) rfl rfl rfl ?_
    intro g L' h₁ tk cells G F' N' Y hs hL X' T'
    k_cells Y
    have N'' := news_hid [(61, tabObj #[rawInt 51, rawInt 4, .ref cd]), (D, listOf vs.toArray k), (cd, oc)] G N' hs hL (by simp [S, hD, hoc]) (by simp)
    (try simp only [List.cons_append, List.nil_append] at N'')
    clear N'
    have lt61 : @LT.lt Nat _ 61 L' := by rw [hL]; exact Heap.lt_size S
    have ltD : @LT.lt Nat _ D L' := by rw [hL]; exact Heap.lt_size hD
    have ltcd : @LT.lt Nat _ cd L' := by rw [hL]; exact Heap.lt_size hoc
    have C' := C65.keeps G.up
    rename Frag.In _ G0 => X0
    (try dsimp only)
    k_unmd
    k_fold
    k_steps
    · rename Fr _ _ _ _ => F2
      rename News _ _ _ _ => N2
      refine' c_inner2 (h₀ := G0) X0 T C65 hn hn64 ?z1y ?z2y ?z3y ?z4y zD ?z6y vs ns k hi hns hb hnn ns.length _ _ _ _ 0 _ _ _ _ _ _ _ _ tq (by omega) (by assumption) (by omega) (by omega) hh ?k2y ?k3y ?k4y ?kNy ?d1y ?d2y ?d3y ?d4y ?d5y ?_
      case kNy => exact List.forall_mem_cons.mpr ⟨(N2 _ (by k_mem)).1, List.forall_mem_cons.mpr ⟨(N2 _ (by k_mem)).1, List.forall_mem_cons.mpr ⟨(N2 _ (by k_mem)).1, List.forall_mem_cons.mpr ⟨(N2 _ (by k_mem)).1, List.forall_mem_cons.mpr ⟨(N2 _ (by k_mem)).1, List.forall_mem_cons.mpr ⟨(N2 (D, _) (by k_mem)).1, List.forall_mem_nil _⟩⟩⟩⟩⟩⟩
      case d1y => assumption
      case d2y => assumption
      case d3y => assumption
      case d4y => assumption
      case d5y => exact str_eq hov (by kernel_rfl)
      all_goals try (exact G.up_none (N2 (_, _) (by k_mem)).2.2)
      case k2y => (show A.depth + 1 + ns.length ≤ 600); omega
      case k3y => (show A.units + 3 + 8 * ns.length ≤ 9000); omega
      case k4y => exact fun b o e => F2.keep _ _ (G.up _ _ e)
      intro t3 h3 tk3 st3
      have F3 := F2.keeps st3
      have N3 := N2.grown st3
      clear F2 N2
      k_steps
      (try dsimp only); (try k_unfold); (try dsimp only)
      refine retI (Q := Q) ?_ (hQ _ _ _ (keep_but (l := [(61, tabObj #[rawInt 51, rawInt 4, .ref cd]), (D, listOf vs.toArray k), (cd, oc)]) G F3 (by simp [S, hD, hoc]) (by simp [(N3 (D, _) (by k_mem)).1, (N3 (cd, oc) (by k_mem)).1])) (tab_right (N3 (61, _) (by k_mem)).1 (N3 (cd, oc) (by k_mem)).1 hod hov rfl hcd zcd))
      simp
    · rename Fr _ _ _ _ => F3
      rename News _ _ _ _ => N3
      (try dsimp only); (try k_unfold); (try dsimp only)
      have hnil : ns = [] := List.eq_nil_of_length_eq_zero (by omega)
      refine retI (Q := Q) ?_ (hQ _ _ _ (keep_but (l := [(61, tabObj #[rawInt 51, rawInt 4, .ref cd]), (D, listOf vs.toArray k), (cd, oc)]) G F3 (by simp [S, hD, hoc]) (by simp [(N3 (D, _) (by k_mem)).1, (N3 (cd, oc) (by k_mem)).1])) (tab_right (N3 (61, _) (by k_mem)).1 (N3 (cd, oc) (by k_mem)).1 hod hov rfl hcd zcd))
      rw [hnil]; rfl

section DP
abbrev RING : Int := 281474976710655
local macro_rules | `(tactic| walk_at "binaryOp LShift int int") => `(tactic| (refine' lshift_48 ?hn ?ha0 ?ha ?_; (case hn => omega); (case ha0 => omega); (case ha => omega); k_whole))
-- the body of the first for loop in a def's text
def forB0 : List Stmt → List Stmt
  | [] => []
  | .For _ _ bd _ _ :: _ => bd
  | _ :: r => forB0 r
theorem size16' : 16 ≤ sizeLine := by rw [sizeLine_eq]; decide
section
local macro_rules | `(tactic| walk_at "call builtin:list.append") => `(tactic| (k_here; refine StopHere.go ?_))
local macro_rules | `(tactic| walk_at "UnrEnd") => `(tactic| (refine StopHere.go ?_))
local macro_rules | `(tactic| walk_at "call builtin:list.reverse") => `(tactic| (k_here; refine StopHere.go ?_))
noncomputable def dpB : List Stmt := by
  refine' (fun (o : List Stmt) (_ : o = (LH.dAt 8).body.drop 5) => o) _ ?h
  case h => dsimp only [LH.dAt, PySem.Challenge.pw_ku0026_01, List.drop]; exact rfl
noncomputable def dpS : Scope := by
  refine' (fun (o : Scope) (_ : o = (LH.dAt 8).scope) => o) _ ?h
  case h => dsimp only [LH.dAt, PySem.Challenge.pw_ku0026_01, List.drop]; exact rfl
-- three names of a map, written out
theorem canon3 {α : Type} {n1 n2 n3 : Str} {v1 v2 v3 : α} {m : Str → α} (h1 : m n1 = v1) (h2 : m n2 = v2) (h3 : m n3 = v3) : m = fun y => if y = n1 then v1 else if y = n2 then v2 else if y = n3 then v3 else m y := by
  funext y
  by_cases a1 : y = n1
  · rw [if_pos a1, a1, h1]
  by_cases a2 : y = n2
  · rw [if_neg a1, if_pos a2, a2, h2]
  by_cases a3 : y = n3
  · rw [if_neg a1, if_neg a2, if_pos a3, a3, h3]
  rw [if_neg a1, if_neg a2, if_neg a3]
section
variable {w : World} {s : Shared} {E : Value → Shared → Prop} {Q : Flow → Shared → Prop} {p : Program} {loose : List Str} {mean : ExcName → Option Value} {mg mb : Str → Option Value} {dp un : Nat} {fr : Option (List Env)} {gd : Option (List Code)}
set_option maxHeartbeats 1600000 in
theorem dp_tail {G0 g : Heap} {L D : Addr} {m : Str → Option Value} {rv : Int} {tr tn : Tok} {qs : List Value} {ns : List Int} {k : Nat} {p2 u2 : Array Value} {c52 c62 : Addr} {o52 o62 : Obj}
    (X : (hd.heap_39 w.params).In G0) (T : Top p loose mean mg mb G0) (C65 : CodeHd G0 65 61) (up : G0.StaysIn g) (un_ : ∀ a, g.get? a = none → G0.get? a = none) (X' : (hd.heap_39 w.params).In g) (T' : Top p loose mean mg mb g)
    (g5 : g.get? 54 = none) (g6 : g.get? 61 = none) (l5 : 54 ≠ L) (l6 : 61 ≠ L) (z61 : G0.get? 61 = none) (hdp : dp ≤ 380) (hun : un ≤ 4900)
    (F : Fr g L s.heap m) (hr : m (Str.ofString "r") = some (.int rv tr)) (hq : m (Str.ofString "q_digits") = some (.ref D)) (hn : m (Str.ofString "n") = some (.int ((48 : Nat) : Int) tn))
    (N : News g L s.heap [(D, listOf qs.toArray k), (54, tabObj p2), (c52, o52), (61, tabObj u2), (c62, o62)]) (TL : T4 G0 g p2 c52 o52 u2 c62 o62)
    (nd : AllNe D [(54, tabObj p2), (c52, o52), (61, tabObj u2), (c62, o62)])
    (hi : IntsAre qs ns) (hns : ns.length ≤ 2) (hb : ∀ d ∈ ns, 0 ≤ d ∧ d < 281474976710656)
    (hQ : ∀ c q t' t'' h' tk m', Fr g L h' m' → St54 G0 h' → St61 G0 h' → g.get? c = none → c ≠ 54 → c ≠ 61 → h'.get? c = some { cls := .type "tuple", data := .seq #[.int q t', .int rv t''] } → Q (.ret (.ref c)) { s with heap := h', toks := tk }) :
    wpAny (model PySem.Challenge.rw_ku0026_01.row.prog w) (({ depth := dp, frames := fr, guards := gd, units := un } : Around).deeper (envOf (Str.ofString "_divmod_pos") dpS L 73 (.ref 72))) (execs dpB (envOf (Str.ofString "_divmod_pos") dpS L 73 (.ref 72))) Q E s := by
  rw [canon3 hr hq hn] at F
  clear hr hq hn
  have z5 : @LT.lt Nat instLTNat 0 1 := Nat.zero_lt_one
  revert X'; k_fill; intro X'
  dsimp only [dpB, dpS] at F N ⊢
  simp only [AllNe, and_true] at nd
  obtain ⟨d1, d2, d3, d4⟩ := nd
  k_steps
  unfold StopHere
  rename Fr _ _ _ _ => F2
  rename News _ _ _ _ => N2
  refine kl_reverse F2 N2 (List.toList_toArray ▸ rfl : qs.toArray.toList.reverse = qs.reverse) (by k_upd) (by rw [List.toList_toArray, hi.length, sizeLine_eq]; exact Nat.le_trans hns (by decide)) ?_
  intro h3 F3 N3
  clear F2 N2
  k_steps
  rename Fr _ _ _ _ => F2
  rename News _ _ _ _ => N2
  have S52 := TL.st54 F2 N2 (by k_mem) (by k_mem)
  have S62 := TL.st61 F2 N2 (by k_mem) (by k_mem)
  have N2t : News g L _ (tl4 p2 c52 o52 u2 c62 o62) := fun p hp => N2 p (.tail _ hp)
  refine c_digits2int (n := 48) X T C65 (fun b o e => F2.keep _ _ (up _ _ e)) z61 S62 rfl (le_up hdp (by decide) : dp + 1 ≤ 390) (le_up hun (by decide) : un + 3 ≤ 5000) (by decide) (by decide) (N2 (D, _) (.head _)).1 (un_ _ (N2 (D, _) (.head _)).2.2) hi.reverse (by rw [List.length_reverse]; exact Nat.le_trans hns (by decide))
    (fun d h => hb d (List.mem_reverse.mp h)) (by rw [List.length_reverse]; exact Nat.le_trans (Nat.mul_le_mul_left 48 hns) (by decide)) ?_
  intro t4 h4 tk4 hk4 S64
  obtain ⟨F4, p3, c53, o53, u3, c63, o63, TL4, N4⟩ := tl_step (own := []) F2 N2t (fun b o _ h1 => hk4 b o h1) (S52.but S62 (by decide) hk4) S64 g5 g6 l5 l6 (by simp)
  dsimp only [List.nil_append, tl4] at N4
  clear F2 N2 N2t S52 S62
  k_steps
  rename Fr _ _ _ _ => F5
  rename News _ _ _ _ => N5
  (try dsimp only); (try k_unfold); (try dsimp only)
  exact hQ _ _ _ _ _ _ _ F5 (TL4.st54 F5 N5 (by k_mem) (by k_mem)) (TL4.st61 F5 N5 (by k_mem) (by k_mem)) (N5 _ (.head _)).2.2 (news_ne_obj N5 (.head _) (by k_mem) (by intro e; cases e)) (news_ne_obj N5 (.head _) (by k_mem) (by intro e; cases e)) (N5 _ (.head _)).1
end
noncomputable def dpL : List Stmt := by
  refine' (fun (o : List Stmt) (_ : o = forB0 (LH.dAt 8).body) => o) _ ?h
  case h => dsimp only [LH.dAt, PySem.Challenge.pw_ku0026_01, List.drop, forB0]; exact rfl
section
variable {w : World} {s : Shared} {E : Value → Shared → Prop} {Q : Flow → Shared → Prop} {p : Program} {loose : List Str} {mean : ExcName → Option Value} {mg mb : Str → Option Value} {dp un : Nat} {fr : Option (List Env)} {gd : Option (List Code)}
abbrev RD (w : World) (E : Value → Shared → Prop) (Q : Flow → Shared → Prop) (s : Shared) (dp un : Nat) (fr : Option (List Env)) (gd : Option (List Code)) (g : Heap) (L I : Addr) (lp : Addr × Obj) : List Value → (Str → Option Value) → List (Addr × Obj) → Prop :=
  RevRest PySem.Challenge.rw_ku0026_01.row.prog w (({ depth := dp, frames := fr, guards := gd, units := un } : Around).deeper (envOf (Str.ofString "_divmod_pos") dpS L 73 (.ref 72))) E g (envOf (Str.ofString "_divmod_pos") dpS L 73 (.ref 72)) (Str.ofString "a_digit") dpL Q s I lp
theorem dp_ub {r d : Int} (r0 : 0 ≤ r) (r1 : r < RING) (d0 : 0 ≤ d) (d1 : d < 281474976710656) : 0 ≤ r * 281474976710656 + d ∧ r * 281474976710656 + d < 79228162514264337593543950336 := by unfold RING at r1; omega
theorem canon4 {α : Type} {n1 n2 n3 n4 : Str} {v1 v2 v3 v4 : α} {m : Str → α} (h1 : m n1 = v1) (h2 : m n2 = v2) (h3 : m n3 = v3) (h4 : m n4 = v4) : m = fun y => if y = n1 then v1 else if y = n2 then v2 else if y = n3 then v3 else if y = n4 then v4 else m y := by
  funext y
  by_cases a1 : y = n1
  · rw [if_pos a1, a1, h1]
  rw [if_neg a1]
  exact congrFun (canon3 h2 h3 h4) y
set_option maxHeartbeats 1600000 in
theorem dp_turn {g : Heap} {L I D l : Addr} {m : Str → Option Value} {rv dv : Int} {tr tn tb td : Tok} {qs : Array Value} {k : Nat} {p2 u2 : Array Value} {c52 c62 : Addr} {lo o52 o62 : Obj} {rest : List Value}
    (X' : (hd.heap_39 w.params).In g) (T' : Top p loose mean mg mb g) (hdp : dp ≤ 380)
    (lI : @LT.lt Nat _ D I ∧ @LT.lt Nat _ l I ∧ @LT.lt Nat _ 54 I ∧ @LT.lt Nat _ c52 I ∧ @LT.lt Nat _ 61 I ∧ @LT.lt Nat _ c62 I) (lD : @LT.lt Nat _ l D ∧ @LT.lt Nat _ 54 D ∧ @LT.lt Nat _ c52 D ∧ @LT.lt Nat _ 61 D ∧ @LT.lt Nat _ c62 D) (hv : qs.size ≤ 16)
    (hr : m (Str.ofString "r") = some (.int rv tr)) (hq : m (Str.ofString "q_digits") = some (.ref D)) (hn : m (Str.ofString "n") = some (.int ((48 : Nat) : Int) tn)) (hb : m (Str.ofString "b") = some (.int RING tb))
    (r0 : 0 ≤ rv) (r1 : rv < RING) (d0 : 0 ≤ dv) (d1 : dv < 281474976710656)
    (h : ∀ m' q' r' t1 t2 k', (rv * 281474976710656 + dv) / RING = q' → (rv * 281474976710656 + dv) % RING = r' → m' (Str.ofString "r") = some (.int r' t1) → m' (Str.ofString "q_digits") = some (.ref D) → m' (Str.ofString "n") = some (.int ((48 : Nat) : Int) tn) → m' (Str.ofString "b") = some (.int RING tb) →
      RD w E Q s dp un fr gd g L I (l, lo) rest m' [(D, listOf (qs.push (.int q' t2)) k'), (l, lo), (54, tabObj p2), (c52, o52), (61, tabObj u2), (c62, o62)]) :
    RD w E Q s dp un fr gd g L I (l, lo) (.int dv td :: rest) m [(D, listOf qs k), (l, lo), (54, tabObj p2), (c52, o52), (61, tabObj u2), (c62, o62)] := by
  rw [canon4 hr hq hn hb]
  have hb0 := dp_ub r0 r1 d0 d1
  unfold RD at h ⊢
  revert X'; k_fill; intro X'
  generalize hR : RevRest _ _ _ _ _ _ _ _ _ _ _ _ rest = R at h
  refine RevRest.succ (fun it h1 tk hit F N => ?_)
  rw [hR]
  clear hR hr hq hn hb
  dsimp only [dpL, dpS] at F N ⊢
  obtain ⟨i1, i2, i3, i4, i5, i6⟩ := lI
  obtain ⟨e1, e2, e3, e4, e5⟩ := lD
  k_steps
  rename Fr _ _ _ _ => F2
  rename News _ _ _ _ => N2
  refine c_div2n1n rfl (le_up hdp (by decide) : dp + 1 ≤ 500) (X'.keeps F2.keep) (T'.keeps F2.keep) (by decide) (by decide +kernel) hb0.1 (Int.lt_trans hb0.2 (by decide +kernel)) (Int.natCast_nonneg _) ?_
  intro c1 tq1 tr1 hc1 tkc1 st1 cn1 cg1
  rw [Int.fdiv_eq_ediv_of_nonneg _ (by decide), Int.fmod_eq_emod_of_nonneg _ (by decide)] at cg1
  have ne1 := allNe_of cn1 N2
  simp only [AllNe, and_true] at ne1
  have F3 := F2.keeps st1
  have N3 := news_new F2 cn1 cg1 (N2.grown st1)
  clear F2 N2 st1 cn1 cg1
  k_steps
  unfold StopHere
  rename Fr _ _ _ _ => F2
  rename News _ _ _ _ => N2
  refine append_K F2 N2 (by k_upd) ?_ (Nat.le_trans hv size16')
  intro h3 F3 N3
  clear F2 N2
  k_steps
  unfold StopHere
  rename Fr _ _ _ _ => F2
  rename News _ _ _ _ => N2
  refine' ⟨_, _, _, [(D, _), (l, lo), (54, tabObj p2), (c52, o52), (61, tabObj u2), (c62, o62)], rfl, F2, ?nw, ?ne, .tail _ (.head _), h _ _ _ _ _ _ rfl rfl (by rfl) (by rfl) (by rfl) (by rfl)⟩
  case nw =>
    intro p hp
    simp only [List.mem_cons, List.not_mem_nil, or_false] at hp
    rcases hp with rfl | rfl | rfl | rfl | rfl | rfl | rfl <;> exact N2 _ (by k_mem)
  case ne =>
    intro p hp
    simp only [List.mem_cons, List.not_mem_nil, or_false] at hp
    rcases hp with rfl | rfl | rfl | rfl | rfl | rfl
    · exact Nat.ne_of_lt i1
    · exact Nat.ne_of_lt i2
    · exact Nat.ne_of_lt i3
    · exact Nat.ne_of_lt i4
    · exact Nat.ne_of_lt i5
    · exact Nat.ne_of_lt i6
end
theorem mem_skip {α : Type} {a b p : α} {l : List α} (h : p ∈ a :: l) : p ∈ a :: b :: l := by
  rcases List.mem_cons.mp h with rfl | h
  · exact .head _
  · exact .tail _ (.tail _ h)
theorem dp_qb1 {r d : Int} (r0 : 0 ≤ r) (r1 : r < RING) (d0 : 0 ≤ d) (d1 : d < 281474976710656) : 0 ≤ (r * 281474976710656 + d) / RING ∧ (r * 281474976710656 + d) / RING < 281474976710656 := by
  refine ⟨Int.ediv_nonneg (dp_ub r0 r1 d0 d1).1 (by decide), Int.ediv_lt_of_lt_mul (by decide) ?_⟩
  unfold RING at *
  omega
theorem dp_rb (x : Int) : 0 ≤ x % RING ∧ x % RING < RING := ⟨Int.emod_nonneg x (by decide), Int.emod_lt_of_pos x (by decide)⟩
theorem dp_one {d : Int} : (0 * 281474976710656 + d) % RING = d % RING := by rw [Int.zero_mul, Int.zero_add]
theorem dp_two {d e r : Int} (h : d % RING = r) : (r * 281474976710656 + e) % RING = (e + 281474976710656 * d) % RING := by
  rw [← h, Int.add_comm, Int.add_emod, Int.mul_emod, Int.emod_emod, ← Int.mul_emod, ← Int.add_emod, Int.mul_comm]
end
theorem Gr.none_of {h₀ h g : Heap} {hid : List Addr} {a : Addr} (G : Gr h₀ h hid g) (e : g.get? a = Option.none) (hn : a ∉ hid) : h.get? a = Option.none := by
  cases q : h.get? a with
  | none => rfl
  | some o => have := G.keep _ _ hn q; rw [e] at this; cases this
local macro_rules | `(tactic| walk_at "RevRest") => `(tactic| (refine StopHere.go ?_))
local macro_rules | `(tactic| walk_at "my none") => `(tactic| skip)
set_option maxHeartbeats 1600000 in
theorem c_divmod_pos {w : World} {A : Around} {s : Shared} {Q E : Value → Shared → Prop} {p : Program} {loose : List Str} {mean : ExcName → Option Value} {mg mb : Str → Option Value} {G0 : Heap} {a : Int} {t t1 : Tok}
    (X : (hd.heap_39 w.params).In G0) (T : Top p loose mean mg mb G0) (C58 : CodeHd G0 58 54) (C65 : CodeHd G0 65 61) (st : G0.StaysIn s.heap) (z54 : G0.get? 54 = none) (z61 : G0.get? 61 = none) (S5 : St54 G0 s.heap) (S6 : St61 G0 s.heap)
    (hh : A.handled = none) (hdp : A.depth ≤ 380) (hun : A.units ≤ 4900) (ha0 : 0 ≤ a) (ha : a < ((2 ^ 96 : Nat) : Int))
    (hQ : ∀ c q t' t'' h' tk, KeepT s.heap h' → St54 G0 h' → St61 G0 h' → s.heap.get? c = none → h'.get? c = some { cls := .type "tuple", data := .seq #[.int q t', .int (a % RING) t''] } → Q (.ref c) { s with heap := h', toks := tk }) :
    wpAny (model PySem.Challenge.rw_ku0026_01.row.prog w) A (call (.ref 73) [.int a t, .int RING t1]) Q E s := by
  (rename Frag.In _ _ => X'; revert X'; k_fill; intro X')
  obtain ⟨hd, dp, fr, gd, un⟩ := A
  dsimp only at hh hdp hun
  subst hh
  (refine wpAny_call ?_; refine' enterT (hid := [54, 61]) ?g3k1 ?g3k2 ?g3k3 ?g3k3b ?g3k4 ?g3k5 ?g3k6 ?g3k7 ?g3k8 ?g3k9 ?g3k10 ?g3k11 ?g3k12 ?_; (case g3k1 => assumption); (case g3k2 => assumption); (case g3k3 => assumption); (case g3k3b => simp [*]); (case g3k4 => k_is); (case g3k5 => k_is); (case g3k6 => first | exact room_of (by assumption) (by decide) | (show _ < recursionLimit; simp only [recursionLimit]; omega)); (case g3k7 => first | exact BindsTo.of_eq rfl | exact binds_K (by assumption) rfl (by k_is) rfl rfl rfl); (case g3k8 => exact locs rfl); (case g3k9 => exact rfl); (case g3k10 => exact rfl); (case g3k11 => exact rfl); (case g3k12 => decide))
  intro g L' h₁ G F' N' hs hL X' T'
  rename Frag.In _ G0 => X0
  have g5 := G.none 54 (by simp)
  have g6 := G.none 61 (by simp)
  obtain ⟨_, e5⟩ := S5.at
  obtain ⟨_, e6⟩ := S6.at
  have l5 : 54 ≠ L' := by rw [hL]; exact Nat.ne_of_lt (Heap.lt_size e5)
  have l6 : 61 ≠ L' := by rw [hL]; exact Nat.ne_of_lt (Heap.lt_size e6)
  obtain ⟨p1, c51, o51, u1, c61, o61, TL, N2⟩ := tl_of F' N' (S5.mono hs) (S6.mono hs) g5 g6 l5 l6
  clear N'
  dsimp only [List.nil_append, tl4] at N2
  have hN : PySem.Builtin.Int.intBits RING = 48 := by decide +kernel
  have hN0 : 0 < PySem.Builtin.Int.intBits RING := by omega
  have hbits : PySem.Builtin.Int.intBits a ≤ 96 := intBits_le_iff.mpr (by omega)
  k_unmd; k_fold
  k_steps
  rename Fr _ _ _ _ => F2
  rename News _ _ _ _ => N2
  have S52 := TL.st54 F2 N2 (by k_mem) (by k_mem)
  have S62 := TL.st61 F2 N2 (by k_mem) (by k_mem)
  refine c_int2digits (n := PySem.Builtin.Int.intBits RING) X0 T C58 (fun b o e => F2.keep _ _ (G.up _ _ e)) z54 S52 rfl (le_up hdp (by decide) : dp + 1 ≤ 390) (le_up hun (by decide) : un + 3 ≤ 5000) hN0 (by omega) ha0 (by omega) ?_
  intro l h3 tk3 vs k hk3 S53 hl3 hg3 hi
  obtain ⟨F3, p2, c52, o52, u2, c62, o62, TL3, N3⟩ := tl_step (own := []) F2 N2 (fun b o h1 _ => hk3 b o h1) S53 (S62.but S52 (by decide) hk3) g5 g6 l5 l6 (by simp)
  have N3l := news_new F2 hl3 hg3 N3
  dsimp only [List.nil_append, tl4] at N3l
  clear F2 N2 TL N3 S52 S62
  have hc2 : cnt (PySem.Builtin.Int.intBits RING) a ≤ 2 := by
    unfold cnt
    rw [hN]
    omega
  have hpw : (2 : Int) ^ (((PySem.Builtin.Int.intBits RING : Nat) : Int)).toNat = 281474976710656 := by rw [hN]; rfl
  have hpn : ((2 ^ (PySem.Builtin.Int.intBits RING) : Nat) : Int) = 281474976710656 := by rw [hN]; rfl
  have hud := undigs_digs _ hN0 _ a ha0 (lt_cnt hN0 ha0)
  have hbd := digs_bound (PySem.Builtin.Int.intBits RING) (cnt (PySem.Builtin.Int.intBits RING) a) a
  rcases ints_cases2 hi (by rw [digs_length]; exact hc2) with ⟨rfl, hd⟩ | ⟨d0, t0, rfl, hd⟩ | ⟨d0, t0, d1, t1', rfl, hd⟩ <;> rw [hd] at hud hbd hi <;> simp only [undigs, hpn, List.mem_cons, List.not_mem_nil, or_false, forall_eq_or_imp, forall_eq] at hud hbd <;> clear hd
  · k_steps
    unfold StopHere
    rename _ < _ ∧ _ < _ ∧ _ < _ ∧ _ < _ ∧ _ < _ => lx
    rename _ < _ ∧ _ < _ ∧ _ < _ ∧ _ < _ ∧ _ < _ ∧ _ < _ => ly
    refine RevRest.zero (fun h' tk' F' N' => ?_)
    (try dsimp only)
    refine dp_tail (s := ⟨_, _, _, _, _⟩) (qs := []) X0 T C65 G.up (fun _ h => G.up_none h) X' T' g5 g6 l5 l6 z61 hdp hun F' (by rfl) (by rfl) (congrArg (fun z : Nat => some (Value.int (z : Int) _)) hN) (fun p hp => N' p (mem_skip hp)) TL3 ⟨Nat.ne_of_lt lx.2.1, Nat.ne_of_lt lx.2.2.1, Nat.ne_of_lt lx.2.2.2.1, Nat.ne_of_lt lx.2.2.2.2, trivial⟩ .nil (Nat.le_of_ble_eq_true rfl) (fun _ h => nomatch h) ?_
    intro c q t' t'' h' tk m' F5 s5 s6 n1 n2 n3 hg
    refine hQ _ _ _ _ _ _ (keepT_of G F5) s5 s6 (G.none_of n1 (by simp only [List.mem_cons, List.not_mem_nil, or_false, not_or]; exact ⟨n2, n3⟩)) (hg.trans (congrArg (fun x => some ({ cls := .type "tuple", data := .seq #[_, .int x _] } : Obj)) ?_))
    rw [← hud]; rfl
  · k_steps
    unfold StopHere
    rename _ < _ ∧ _ < _ ∧ _ < _ ∧ _ < _ ∧ _ < _ => lx
    rename _ < _ ∧ _ < _ ∧ _ < _ ∧ _ < _ ∧ _ < _ ∧ _ < _ => ly
    refine dp_turn X' T' hdp ly lx (Nat.le_of_ble_eq_true rfl) (by rfl) (by rfl) (congrArg (fun z : Nat => some (Value.int (z : Int) _)) hN) (by rfl) (by decide) (by decide) hbd.1 hbd.2 (fun m1 q1 r1 _ _ _ he1 hf1 hr1 hq1 hn1 hb1 => ?_)
    refine RevRest.zero (fun h' tk' F' N' => ?_)
    (try dsimp only)
    refine dp_tail (s := ⟨_, _, _, _, _⟩) (qs := [.int _ _]) X0 T C65 G.up (fun _ h => G.up_none h) X' T' g5 g6 l5 l6 z61 hdp hun F' hr1 hq1 hn1 (fun p hp => N' p (mem_skip hp)) TL3 ⟨Nat.ne_of_lt lx.2.1, Nat.ne_of_lt lx.2.2.1, Nat.ne_of_lt lx.2.2.2.1, Nat.ne_of_lt lx.2.2.2.2, trivial⟩ (.cons _ _ .nil) (Nat.le_of_ble_eq_true rfl) (fun d h => by rw [List.mem_singleton.mp h, ← he1]; exact dp_qb1 (by decide) (by decide) hbd.1 hbd.2) ?_
    intro c q t' t'' h' tk m' F5 s5 s6 n1 n2 n3 hg
    refine hQ _ _ _ _ _ _ (keepT_of G F5) s5 s6 (G.none_of n1 (by simp only [List.mem_cons, List.not_mem_nil, or_false, not_or]; exact ⟨n2, n3⟩)) (hg.trans (congrArg (fun x => some ({ cls := .type "tuple", data := .seq #[_, .int x _] } : Obj)) ?_))
    rw [← hf1, dp_one, ← hud, Int.mul_zero, Int.add_zero]
  · k_steps
    unfold StopHere
    rename _ < _ ∧ _ < _ ∧ _ < _ ∧ _ < _ ∧ _ < _ => lx
    rename _ < _ ∧ _ < _ ∧ _ < _ ∧ _ < _ ∧ _ < _ ∧ _ < _ => ly
    refine dp_turn X' T' hdp ly lx (Nat.le_of_ble_eq_true rfl) (by rfl) (by rfl) (congrArg (fun z : Nat => some (Value.int (z : Int) _)) hN) (by rfl) (by decide) (by decide) hbd.2.1 hbd.2.2 (fun m1 q1 r1 _ _ _ he1 hf1 hr1 hq1 hn1 hb1 => ?_)
    refine dp_turn X' T' hdp ly lx (Nat.le_of_ble_eq_true rfl) hr1 hq1 hn1 hb1 (hf1 ▸ (dp_rb _).1) (hf1 ▸ (dp_rb _).2) hbd.1.1 hbd.1.2 (fun m2 q2 r2 _ _ _ he2 hf2 hr2 hq2 hn2 hb2 => ?_)
    refine RevRest.zero (fun h' tk' F' N' => ?_)
    (try dsimp only)
    refine dp_tail (s := ⟨_, _, _, _, _⟩) (qs := [.int _ _, .int _ _]) X0 T C65 G.up (fun _ h => G.up_none h) X' T' g5 g6 l5 l6 z61 hdp hun F' hr2 hq2 hn2 (fun p hp => N' p (mem_skip hp)) TL3 ⟨Nat.ne_of_lt lx.2.1, Nat.ne_of_lt lx.2.2.1, Nat.ne_of_lt lx.2.2.2.1, Nat.ne_of_lt lx.2.2.2.2, trivial⟩ (.cons _ _ (.cons _ _ .nil)) (Nat.le_of_ble_eq_true rfl) (fun d h => by
      rcases List.mem_cons.mp h with h | h
      · rw [h, ← he1]; exact dp_qb1 (by decide) (by decide) hbd.2.1 hbd.2.2
      · rw [List.mem_singleton.mp h, ← he2]; exact dp_qb1 (hf1 ▸ (dp_rb _).1) (hf1 ▸ (dp_rb _).2) hbd.1.1 hbd.1.2) ?_
    intro c q t' t'' h' tk m' F5 s5 s6 n1 n2 n3 hg
    refine hQ _ _ _ _ _ _ (keepT_of G F5) s5 s6 (G.none_of n1 (by simp only [List.mem_cons, List.not_mem_nil, or_false, not_or]; exact ⟨n2, n3⟩)) (hg.trans (congrArg (fun x => some ({ cls := .type "tuple", data := .seq #[_, .int x _] } : Obj)) ?_))
    rw [← hf2, dp_two hf1, ← hud, Int.mul_zero, Int.add_zero, Int.zero_mul, Int.zero_add]
end DP

theorem bitNot_eq (a : Int) : Builtin.bitNot a = -a - 1 := by unfold Builtin.bitNot; omega
set_option maxHeartbeats 1600000 in
theorem c_int_divmod0 {w : World} {A : Around} {s : Shared} {Q E : Value → Shared → Prop} {p : Program} {loose : List Str} {mean : ExcName → Option Value} {mg mb : Str → Option Value} {G0 : Heap} {a : Int} {t t1 : Tok}
    (X : (hd.heap_39 w.params).In G0) (T : Top p loose mean mg mb G0) (C58 : CodeHd G0 58 54) (C65 : CodeHd G0 65 61) (st : G0.StaysIn s.heap) (z54 : G0.get? 54 = none) (z61 : G0.get? 61 = none) (S5 : St54 G0 s.heap) (S6 : St61 G0 s.heap)
    (hh : A.handled = none) (hdp : A.depth ≤ 379) (hun : A.units ≤ 4890) (ha0 : 0 ≤ a) (ha : a < ((2 ^ 96 : Nat) : Int))
    (hQ : ∀ c q t' t'' h' tk, KeepT s.heap h' → St54 G0 h' → St61 G0 h' → s.heap.get? c = none → h'.get? c = some { cls := .type "tuple", data := .seq #[.int q t', .int (a % RING) t''] } → Q (.ref c) { s with heap := h', toks := tk }) :
    wpAny (model PySem.Challenge.rw_ku0026_01.row.prog w) A (call (.ref 80) [.int a t, .int RING t1]) Q E s := by
  (rename Frag.In _ _ => X'; revert X'; k_fill; intro X')
  obtain ⟨hd, dp, fr, gd, un⟩ := A
  dsimp only at hh hdp hun
  subst hh
  (refine wpAny_call ?_; refine' enterT (hid := [54, 61]) ?g4k1 ?g4k2 ?g4k3 ?g4k3b ?g4k4 ?g4k5 ?g4k6 ?g4k7 ?g4k8 ?g4k9 ?g4k10 ?g4k11 ?g4k12 ?_; (case g4k1 => assumption); (case g4k2 => assumption); (case g4k3 => assumption); (case g4k3b => simp [*]); (case g4k4 => k_is); (case g4k5 => k_is); (case g4k6 => first | exact room_of (by assumption) (by decide) | (show _ < recursionLimit; simp only [recursionLimit]; omega)); (case g4k7 => first | exact BindsTo.of_eq rfl | exact binds_K (by assumption) rfl (by k_is) rfl rfl rfl); (case g4k8 => exact locs rfl); (case g4k9 => exact rfl); (case g4k10 => exact rfl); (case g4k11 => exact rfl); (case g4k12 => decide))
  intro g L' h₁ G F' N' hs hL X' T'
  rename Frag.In _ G0 => X0
  have g5 := G.none 54 (by simp)
  have g6 := G.none 61 (by simp)
  obtain ⟨_, e5⟩ := S5.at
  obtain ⟨_, e6⟩ := S6.at
  have l5 : 54 ≠ L' := by rw [hL]; exact Nat.ne_of_lt (Heap.lt_size e5)
  have l6 : 61 ≠ L' := by rw [hL]; exact Nat.ne_of_lt (Heap.lt_size e6)
  obtain ⟨p1, c51, o51, u1, c61, o61, TL, N2⟩ := tl_of F' N' (S5.mono hs) (S6.mono hs) g5 g6 l5 l6
  clear N'
  dsimp only [List.nil_append, tl4] at N2
  have hR0 : ¬ RING = 0 := by decide
  have hR1 : ¬ RING < 0 := by decide
  k_unmd; k_fold
  k_steps
  rename Fr _ _ _ _ => F2
  rename News _ _ _ _ => N2
  have S52 := TL.st54 F2 N2 (by k_mem) (by k_mem)
  have S62 := TL.st61 F2 N2 (by k_mem) (by k_mem)
  refine c_divmod_pos X0 T C58 C65 (fun b o e => F2.keep _ _ (G.up _ _ e)) z54 z61 S52 S62 rfl (le_up hdp (by decide) : dp + 1 ≤ 380) (le_up hun (by decide) : un + 3 ≤ 4900) ha0 ha ?_
  intro c q t' t'' h3 tk3 hk3 S53 S63 hc3 hg3
  obtain ⟨F3, p2, c52, o52, u2, c62, o62, TL3, N3⟩ := tl_step (own := []) F2 N2 hk3 S53 S63 g5 g6 l5 l6 (by simp)
  have N3l := news_new F2 hc3 hg3 N3
  dsimp only [List.nil_append, tl4] at N3l
  clear N3
  clear F2 N2 TL
  k_steps
  (try dsimp only); (try k_unfold); (try dsimp only)
  rename Fr _ _ _ _ => F5
  rename News _ _ _ _ => N5
  refine' hQ _ _ _ _ _ _ (keepT_of G F5) (TL3.st54 F5 N5 (by k_mem) (by k_mem)) (TL3.st61 F5 N5 (by k_mem) (by k_mem)) (G.sub_none N5 ?ema ?ena) (N5 _ (.head _)).1
  case ema => exact .head _
  case ena => simp only [List.mem_cons, List.not_mem_nil, or_false, not_or]; exact ⟨news_ne_obj N5 (.head _) (by k_mem) (by intro e; cases e), news_ne_obj N5 (.head _) (by k_mem) (by intro e; cases e)⟩
set_option maxHeartbeats 1600000 in
theorem c_int_divmod {w : World} {A : Around} {s : Shared} {Q E : Value → Shared → Prop} {p : Program} {loose : List Str} {mean : ExcName → Option Value} {mg mb : Str → Option Value} {G0 : Heap} {a : Int} {t t1 : Tok}
    (X : (hd.heap_39 w.params).In G0) (T : Top p loose mean mg mb G0) (C58 : CodeHd G0 58 54) (C65 : CodeHd G0 65 61) (st : G0.StaysIn s.heap) (z54 : G0.get? 54 = none) (z61 : G0.get? 61 = none) (S5 : St54 G0 s.heap) (S6 : St61 G0 s.heap)
    (hh : A.handled = none) (hdp : A.depth ≤ 378) (hun : A.units ≤ 4880) (ha0 : -562949953421312 ≤ a) (ha : a < ((2 ^ 96 : Nat) : Int))
    (hQ : ∀ c q t' t'' h' tk, KeepT s.heap h' → St54 G0 h' → St61 G0 h' → s.heap.get? c = none → h'.get? c = some { cls := .type "tuple", data := .seq #[.int q t', .int (a % RING) t''] } → Q (.ref c) { s with heap := h', toks := tk }) :
    wpAny (model PySem.Challenge.rw_ku0026_01.row.prog w) A (call (.ref 80) [.int a t, .int RING t1]) Q E s := by
  (rename Frag.In _ _ => X'; revert X'; k_fill; intro X')
  obtain ⟨hd, dp, fr, gd, un⟩ := A
  dsimp only at hh hdp hun
  subst hh
  (refine wpAny_call ?_; refine' enterT (hid := [54, 61]) ?g5k1 ?g5k2 ?g5k3 ?g5k3b ?g5k4 ?g5k5 ?g5k6 ?g5k7 ?g5k8 ?g5k9 ?g5k10 ?g5k11 ?g5k12 ?_; (case g5k1 => assumption); (case g5k2 => assumption); (case g5k3 => assumption); (case g5k3b => simp [*]); (case g5k4 => k_is); (case g5k5 => k_is); (case g5k6 => first | exact room_of (by assumption) (by decide) | (show _ < recursionLimit; simp only [recursionLimit]; omega)); (case g5k7 => first | exact BindsTo.of_eq rfl | exact binds_K (by assumption) rfl (by k_is) rfl rfl rfl); (case g5k8 => exact locs rfl); (case g5k9 => exact rfl); (case g5k10 => exact rfl); (case g5k11 => exact rfl); (case g5k12 => decide))
  intro g L' h₁ G F' N' hs hL X' T'
  rename Frag.In _ G0 => X0
  have g5 := G.none 54 (by simp)
  have g6 := G.none 61 (by simp)
  obtain ⟨_, e5⟩ := S5.at
  obtain ⟨_, e6⟩ := S6.at
  have l5 : 54 ≠ L' := by rw [hL]; exact Nat.ne_of_lt (Heap.lt_size e5)
  have l6 : 61 ≠ L' := by rw [hL]; exact Nat.ne_of_lt (Heap.lt_size e6)
  obtain ⟨p1, c51, o51, u1, c61, o61, TL, N2⟩ := tl_of F' N' (S5.mono hs) (S6.mono hs) g5 g6 l5 l6
  clear N'
  dsimp only [List.nil_append, tl4] at N2
  have hR0 : ¬ RING = 0 := by decide
  have hR1 : ¬ RING < 0 := by decide
  rcases Int.lt_or_le a 0 with hneg | hpos
  · k_unmd; k_fold
    k_steps
    rename Fr _ _ _ _ => F2
    rename News _ _ _ _ => N2
    have S52 := TL.st54 F2 N2 (by k_mem) (by k_mem)
    have S62 := TL.st61 F2 N2 (by k_mem) (by k_mem)
    refine c_int_divmod0 X0 T C58 C65 (fun b o e => F2.keep _ _ (G.up _ _ e)) z54 z61 S52 S62 rfl (le_up hdp (by decide) : dp + 1 ≤ 379) (le_up hun (by decide) : un + 3 ≤ 4890) (by rw [bitNot_eq]; omega) (by rw [bitNot_eq]; omega) ?_
    intro c q t' t'' h3 tk3 hk3 S53 S63 hc3 hg3
    obtain ⟨F3, p2, c52, o52, u2, c62, o62, TL3, N3⟩ := tl_step (own := []) F2 N2 hk3 S53 S63 g5 g6 l5 l6 (by simp)
    have N3l := news_new F2 hc3 hg3 N3
    dsimp only [List.nil_append, tl4] at N3l
    clear N3
    clear F2 N2 TL
    k_steps
    rename Fr _ _ _ _ => F5
    rename News _ _ _ _ => N5
    (try dsimp only); (try k_unfold); (try dsimp only)
    refine' hQ _ _ _ _ _ _ (keepT_of G F5) (TL3.st54 F5 N5 (by k_mem) (by k_mem)) (TL3.st61 F5 N5 (by k_mem) (by k_mem)) (G.sub_none N5 ?emq ?enq) ?egq
    case emq => exact .head _
    case enq => simp only [List.mem_cons, List.not_mem_nil, or_false, not_or]; exact ⟨news_ne_obj N5 (.head _) (by k_mem) (by intro e; cases e), news_ne_obj N5 (.head _) (by k_mem) (by intro e; cases e)⟩
    case egq => refine (N5 _ (.head _)).1.trans ?_; (refine congrArg (fun x => some ({ cls := .type "tuple", data := .seq #[_, .int x _] } : Obj)) ?_); rw [bitNot_eq, bitNot_eq]; unfold RING; omega
  · k_unmd; k_fold
    k_steps
    rename Fr _ _ _ _ => F2
    rename News _ _ _ _ => N2
    have S52 := TL.st54 F2 N2 (by k_mem) (by k_mem)
    have S62 := TL.st61 F2 N2 (by k_mem) (by k_mem)
    refine c_divmod_pos X0 T C58 C65 (fun b o e => F2.keep _ _ (G.up _ _ e)) z54 z61 S52 S62 rfl (le_up hdp (by decide) : dp + 1 ≤ 380) (le_up hun (by decide) : un + 3 ≤ 4900) hpos ha ?_
    intro c q t' t'' h3 tk3 hk3 S53 S63 hc3 hg3
    obtain ⟨F3, p2, c52, o52, u2, c62, o62, TL3, N3⟩ := tl_step (own := []) F2 N2 hk3 S53 S63 g5 g6 l5 l6 (by simp)
    have N3l := news_new F2 hc3 hg3 N3
    dsimp only [List.nil_append, tl4] at N3l
    clear N3
    clear F2 N2 TL
    k_steps
    (try dsimp only); (try k_unfold); (try dsimp only)
    rename Fr _ _ _ _ => F5
    rename News _ _ _ _ => N5
    refine' hQ _ _ _ _ _ _ (keepT_of G F5) (TL3.st54 F5 N5 (by k_mem) (by k_mem)) (TL3.st61 F5 N5 (by k_mem) (by k_mem)) (G.sub_none N5 ?emr ?enr) (N5 _ (.head _)).1
    case emr => exact .head _
    case enr => simp only [List.mem_cons, List.not_mem_nil, or_false, not_or]; exact ⟨news_ne_obj N5 (.head _) (by k_mem) (by intro e; cases e), news_ne_obj N5 (.head _) (by k_mem) (by intro e; cases e)⟩

namespace Codec
open PySem.Builtin PySem.Builtin._codecs PySem.Calls
theorem len8 {α : Type} {l : List α} (h : l.length = 8) : ∃ a b c d e f g i, l = [a, b, c, d, e, f, g, i] := by
  match l, h with
  | [a, b, c, d, e, f, g, i], _ => exact ⟨a, b, c, d, e, f, g, i, rfl⟩
theorem fold_u8 : ∀ (l : List Nat) (acc : Array UInt8), List.foldl (fun acc y => acc ++ [Nat.toUInt8 y].toArray) acc l = acc ++ (l.map (·.toUInt8)).toArray
  | [], acc => by simp
  | c :: r, acc => by rw [List.foldl_cons, fold_u8 r]; simp
theorem narrow_ascii {id : String} {self : Value} {l : List Nat} (hl : l.length = 8) (ha : ∀ c ∈ l, c < 128) : encodeNarrow id asciiCodec none self ⟨l.toArray⟩ = pure (l.map (·.toUInt8)).toArray := by
  have e2 : Array.findIdx? asciiCodec.bad l.toArray = none := by
    rw [List.findIdx?_toArray, List.findIdx?_eq_none_iff]
    intro x hx
    exact decide_eq_false (Nat.not_le.mpr (ha x hx))
  have e1 : l.toArray.extract 0 8 = l.toArray := by rw [← hl]; simp
  have e3 : Array.foldl (fun acc y => acc ++ (asciiCodec.bytesOf y).toArray) #[] l.toArray 0 8 = (l.map (·.toUInt8)).toArray := by
    rw [← hl]
    have h := fold_u8 l #[]
    simp only [asciiCodec]
    simpa using h
  have e4 : l.toArray[8]? = none := by simp [hl]
  obtain ⟨c, e0, hc⟩ : ∃ c, l.toArray[0]? = some c ∧ asciiCodec.bad c = false := by
    cases l with
    | nil => cases hl
    | cons c r => exact ⟨c, by simp, decide_eq_false (Nat.not_le.mpr (ha c (.head _)))⟩
  have e5 : l.toArray.size = 8 := hl
  have e6 : (l.map (·.toUInt8)).toArray.size = 8 := by simp [hl]
  generalize l.toArray = B at *
  generalize (l.map (·.toUInt8)).toArray = C at *
  clear ha hl
  have s0 : ¬ sizeLine < (#[] : Array UInt8).size := by decide
  have s1 : ¬ sizeLine < C.size := by rw [e6, sizeLine_eq]; decide
  unfold encodeNarrow
  simp only [Str.length, e5, Std.Legacy.Range.forIn_eq_forIn_range', Std.Legacy.Range.size, Nat.sub_zero, Nat.zero_add, Nat.reduceAdd, Nat.add_one_sub_one, Nat.div_one]
  rw [show List.range' 0 8 = 0 :: 1 :: List.range' 2 6 from rfl, List.forIn_cons]
  simp only [↓reduceIte, gt_iff_lt, s0, e0, hc, Bool.not_false, e1, e2, e3, e5, Option.getD_none, Nat.zero_add, pure_bind]
  rw [List.forIn_cons]
  simp only [↓reduceIte, s1, e4, pure_bind]
theorem find_ascii {b : Array UInt8} {p : Nat} (hp : (b.getD p 0).toNat < 128) : asciiDecoder.find true b p = .text [(b.getD p 0).toNat] (p + 1) := by
  unfold asciiDecoder; dsimp only; rw [if_pos hp]; rfl
theorem run_ascii {id : String} {l : List Nat} (hl : l.length = 8) (ha : ∀ c ∈ l, c < 128) : runDecoder id asciiDecoder none true (l.map (·.toUInt8)).toArray 0 [] = pure (l.toArray, 8) := by
  have h0 : ∀ c ∈ l, c.toUInt8.toNat = c := fun c hc => by have := ha c hc; simp; omega
  obtain ⟨a, b, c, d, e, f, g, i, rfl⟩ := len8 hl
  simp only [List.mem_cons, List.not_mem_nil, or_false, forall_eq_or_imp, forall_eq] at h0 ha
  obtain ⟨h1, h2, h3, h4, h5, h6, h7, h8⟩ := h0
  obtain ⟨k1, k2, k3, k4, k5, k6, k7, k8⟩ := ha
  unfold runDecoder
  simp only [List.map_cons, List.map_nil, List.size_toArray, List.length_cons, List.length_nil, Std.Legacy.Range.forIn_eq_forIn_range', Std.Legacy.Range.size, Nat.sub_zero, Nat.zero_add, Nat.reduceAdd, Nat.add_one_sub_one, Nat.div_one]
  generalize hB : [a.toUInt8, b.toUInt8, c.toUInt8, d.toUInt8, e.toUInt8, f.toUInt8, g.toUInt8, i.toUInt8].toArray = B
  have f1 : asciiDecoder.find true B 0 = .text [a] 1 := by rw [find_ascii] <;> rw [← hB] <;> simp only [Array.getD_eq_getD_getElem?, List.getElem?_toArray, List.getElem?_cons_zero, List.getElem?_cons_succ, Option.getD_some, h1, k1]
  have f2 : asciiDecoder.find true B 1 = .text [b] 2 := by rw [find_ascii] <;> rw [← hB] <;> simp only [Array.getD_eq_getD_getElem?, List.getElem?_toArray, List.getElem?_cons_zero, List.getElem?_cons_succ, Option.getD_some, h2, k2]
  have f3 : asciiDecoder.find true B 2 = .text [c] 3 := by rw [find_ascii] <;> rw [← hB] <;> simp only [Array.getD_eq_getD_getElem?, List.getElem?_toArray, List.getElem?_cons_zero, List.getElem?_cons_succ, Option.getD_some, h3, k3]
  have f4 : asciiDecoder.find true B 3 = .text [d] 4 := by rw [find_ascii] <;> rw [← hB] <;> simp only [Array.getD_eq_getD_getElem?, List.getElem?_toArray, List.getElem?_cons_zero, List.getElem?_cons_succ, Option.getD_some, h4, k4]
  have f5 : asciiDecoder.find true B 4 = .text [e] 5 := by rw [find_ascii] <;> rw [← hB] <;> simp only [Array.getD_eq_getD_getElem?, List.getElem?_toArray, List.getElem?_cons_zero, List.getElem?_cons_succ, Option.getD_some, h5, k5]
  have f6 : asciiDecoder.find true B 5 = .text [f] 6 := by rw [find_ascii] <;> rw [← hB] <;> simp only [Array.getD_eq_getD_getElem?, List.getElem?_toArray, List.getElem?_cons_zero, List.getElem?_cons_succ, Option.getD_some, h6, k6]
  have f7 : asciiDecoder.find true B 6 = .text [g] 7 := by rw [find_ascii] <;> rw [← hB] <;> simp only [Array.getD_eq_getD_getElem?, List.getElem?_toArray, List.getElem?_cons_zero, List.getElem?_cons_succ, Option.getD_some, h7, k7]
  have f8 : asciiDecoder.find true B 7 = .text [i] 8 := by rw [find_ascii] <;> rw [← hB] <;> simp only [Array.getD_eq_getD_getElem?, List.getElem?_toArray, List.getElem?_cons_zero, List.getElem?_cons_succ, Option.getD_some, h8, k8]
  have hs : B.size = 8 := by rw [← hB]; rfl
  clear hB
  rw [show List.range' 0 8 = [0, 1, 2, 3, 4, 5, 6, 7] from rfl]
  simp [f1, f2, f3, f4, f5, f6, f7, f8, hs, sizeLine_eq, List.forIn_cons, List.forIn_nil]
theorem road_enc {id : String} {v : Value} {x : Str} : encodeRoad id v x (Str.ofString "ascii") none = (do mkBytes (← encodeNarrow id asciiCodec none v x)) := by kernel_rfl
theorem enc_tree (x : Str) (t u : Tok) : «str.encode» ⟨[.str x t, .str (Str.ofString "ascii") u], []⟩ = (do ret (← encodeRoad "str.encode" (.str x t) x (Str.ofString "ascii") none)) := by kernel_rfl
theorem road_dec {id : String} {b : Array UInt8} : decodeRoad id b (PySem.Str.ofString "ascii") none [] = (runDecoder id asciiDecoder none true b 0 [] >>= fun r => mkStr ⟨r.1⟩) := by kernel_rfl
theorem dec_tree {c : UInt8} {cs : List UInt8} {t u : Tok} : «bytes.decode» ⟨[.bytes (c :: cs).toArray t, .str (Str.ofString "ascii") u], []⟩ = (mkStr (PySem.Str.ofString "utf-8") >>= fun _ => mkStr (PySem.Str.ofString "ascii") >>= fun e => mkStr (PySem.Str.ofString "bytes.decode") >>= fun d =>
    call (.builtin "_codecs.decode.text") [.bytes (c :: cs).toArray t, e, .none, d] >>= fun v => ret v) := by kernel_rfl
theorem kind_text : builtinKind "_codecs.decode.text" = none := by decide +kernel
theorem args_decode2 (a b : Value) : argsOk "bytes.decode" ⟨[a, b], []⟩ := by
  unfold argsOk; rw [signature?_of (id := "bytes.decode") (n := ['e', 'd', 'o', 'c', 'e', 'd']) (o := ['s', 'e', 't', 'y', 'b']) (by kernel_rfl) FB.owner_bytes]; kernel_rfl
theorem meets_enc {l : List Nat} (hl : l.length = 8) (ha : ∀ c ∈ l, c < 128) {t u : Tok} :
    Meets («str.encode» ⟨[.str ⟨l.toArray⟩ t, .str (Str.ofString "ascii") u], []⟩) (fun _ R s => ∀ t' k, R (.ok (.ret (.bytes (l.map (·.toUInt8)).toArray t'))) { s with toks := k }) := by
  refine .of_wp fun prog w A R s h => ?_
  rw [enc_tree, road_enc, narrow_ascii hl ha]
  refine wpAny_bind (wpAny_bind (wpAny_pure ?_))
  refine wpAny_mkBytes (wpAny_pure ⟨_, rfl, h _ _⟩) ?_
  rw [sizeLine_eq, List.size_toArray, List.length_map, hl]; decide
theorem meets_dtext {b : Array UInt8} {x : Str} {n : Nat} {t t1 t2 : Tok} {d : PySem.Str} (hd : ∀ id, runDecoder id asciiDecoder none true b 0 [] = pure (x.cps, n)) :
    Meets («_codecs.decode.text» ⟨[.bytes b t, .str (PySem.Str.ofString "ascii") t1, .none, .str d t2], []⟩) (fun _ R s => x.length ≤ sizeLine ∧ ∀ t' k, R (.ok (.ret (.str x t'))) { s with toks := k }) := by
  refine .of_wp fun prog w A R s hS => ?_
  obtain ⟨hsz, h⟩ := hS
  show wpAny _ _ (Bytes.bytesLike _ (.bytes b t) >>= fun r => _) _ _ s
  refine wpAny_bind (wpAny_of_eq KBd.like_eq ?_)
  refine wpAny_bind (wpAny_of_eq KBd.held_eq ?_)
  show wpAny _ _ (_codecs.decodeRoad _ b (PySem.Str.ofString "ascii") none [] >>= fun v => _) _ _ s
  rw [road_dec, hd]
  refine wpAny_bind (wpAny_bind (wpAny_pure ?_))
  exact wpAny_mkStr (wpAny_pure ⟨_, rfl, h _ _⟩) hsz
theorem meets_dec {l : List Nat} (hl : l.length = 8) (ha : ∀ c ∈ l, c < 128) {t u : Tok} :
    Meets («bytes.decode» ⟨[.bytes (l.map (·.toUInt8)).toArray t, .str (Str.ofString "ascii") u], []⟩) (fun _ R s => ∀ t' k, R (.ok (.ret (.str ⟨l.toArray⟩ t'))) { s with toks := k }) := by
  refine .of_wp fun prog w A R s h => ?_
  have e : ∃ c cs, (l.map (·.toUInt8)) = c :: cs := by
    obtain ⟨a, b, c, d, e, f, g, i, rfl⟩ := len8 hl
    exact ⟨_, _, rfl⟩
  obtain ⟨c, cs, e⟩ := e
  have M := fun id => run_ascii (id := id) hl ha
  rw [e] at M ⊢
  rw [dec_tree]
  refine wpAny_bind (wpAny_mkStr ?_ (by decide))
  refine wpAny_bind (wpAny_mkStr ?_ (by decide))
  refine wpAny_bind (wpAny_mkStr ?_ (by decide))
  exact wpAny_bind (call_function_meets kind_text KBd.plain_text KBd.entry_text (KBd.args_text _ _ _ _) (meets_dtext (x := ⟨l.toArray⟩) M) ⟨by rw [sizeLine_eq]; show l.toArray.size ≤ _; rw [List.size_toArray, hl]; decide, fun _ _ => wpAny_pure ⟨_, rfl, h _ _⟩⟩)
section
variable {prog : Program} {w : World} {A : Around} {E : Value → Shared → Prop} {s : Shared} {l : List Nat} {t u : Tok} {Q : Value → Shared → Prop}
theorem noRef {x : Str} : ∀ a, Value.str x t = .ref a → ∃ o, s.heap.get? a = some o ∧ o.dict = none := fun _ e => nomatch e
theorem enc_m {M : Model} {x : Str} {pl : Sem Bool} {Q : Value × List Value → Shared → Prop} (h : Q (.builtin "str.encode", [.str x t]) s) : wpAny M A (getMethod (.str x t) "encode" pl) Q E s := by
  with_reducible exact getMethod_builtin (typeIs_str _ _ _) F.plainAttrs_str F.slot_str_encode F.type_str_encode noRef h
theorem enc_k (hl : l.length = 8) (ha : ∀ c ∈ l, c < 128) (h : ∀ t' k, Q (.bytes (l.map (·.toUInt8)).toArray t') { s with toks := k }) : wpAny (model prog w) A (call (.builtin "str.encode") [.str ⟨l.toArray⟩ t, .str (Str.ofString "ascii") u]) Q E s :=
  call_meets F.slot_str_encode (typeIs_str _ _ _) F.entry_str_encode (F.args_str_encode_2 _ _) (meets_enc hl ha) h
theorem dec_k (hl : l.length = 8) (ha : ∀ c ∈ l, c < 128) (h : ∀ t' k, Q (.str ⟨l.toArray⟩ t') { s with toks := k }) : wpAny (model prog w) A (call (.builtin "bytes.decode") [.bytes (l.map (·.toUInt8)).toArray t, .str (Str.ofString "ascii") u]) Q E s :=
  call_meets FB.slot_bytes_decode (typeIs_bytes _ _ _) FB.entry_bytes_decode (args_decode2 _ _) (meets_dec hl ha) h
end
end Codec
--{
local macro_rules | `(tactic| walk_at "getMethod str") => `(tactic| ((with_reducible show wpAny _ _ (getMethod _ (PySem.Str.ofString "encode") _) _ _ _); refine Codec.enc_m ?_))
local macro_rules | `(tactic| walk_at "call builtin:str.encode") => `(tactic| (refine' Codec.enc_k ?hxl ?hxa ?_; (case hxl => assumption); (case hxa => assumption); intro _ _))
local macro_rules | `(tactic| walk_at "call builtin:bytes.decode") => `(tactic| (refine' Codec.dec_k ?hyl ?hya ?_; (case hyl => assumption); (case hya => assumption); intro _ _))
--}

--{
local macro_rules | `(tactic| walk_at "call type:type") => `(tactic| ((with_reducible show wpAny _ _ (call _ [Value.bytes _ _]) _ _ _); refine call_type_of (Tx := "bytes") rfl (by decide +kernel) ?_))
--}
section
variable {w : World} {A : Around} {s : Shared} {Q E : Value → Shared → Prop} {p : Program} {loose : List Str} {mean : ExcName → Option Value} {mg mb : Str → Option Value}
set_option maxHeartbeats 1600000 in
theorem c_buffer {bs : Array UInt8} {t : Tok}
    (hh : A.handled = none) (hdp : A.depth ≤ 500) (X : (hd.heap_39 w.params).In s.heap) (T : Top p loose mean mg mb s.heap)
    (hQ : ∀ t' h' tk, s.heap.StaysIn h' → Q (.bytes bs t') { s with heap := h', toks := tk }) : wpAny (model PySem.Challenge.rw_ku0026_01.row.prog w) A (call (.ref 115) [.bytes bs t]) Q E s := by
  (rename Frag.In _ _ => X'; revert X'; k_fill; intro X')
  obtain ⟨hd, dp, fr, gd, un⟩ := A
  dsimp only at hh hdp
  subst hh
  (refine wpAny_call ?_; refine' enterS ?g6k1 ?g6k2 ?g6k3 ?g6k4 ?g6k5 ?g6k6 ?g6k7 ?g6k8 ?g6k9 ?g6k10 ?g6k11 ?_; (case g6k1 => assumption); (case g6k2 => assumption); (case g6k3 => k_is); (case g6k4 => k_is); (case g6k5 => first | exact room_of (by assumption) (by decide) | (show _ < recursionLimit; simp only [recursionLimit]; omega)); (case g6k6 => first | exact BindsTo.of_eq rfl | exact binds_K (by assumption) rfl (by k_is) rfl rfl rfl); (case g6k7 => exact locs rfl); (case g6k8 => exact rfl); (case g6k9 => exact rfl); (case g6k10 => exact rfl); (case g6k11 => decide); intro _ _ _ _; (try dsimp only); (try k_fold))
  k_steps
  (try dsimp only); (try k_unfold); (try dsimp only)
  exact hQ _ _ _ (Fr.keep (by assumption))
set_option maxHeartbeats 1600000 in
theorem c_truth
    (hh : A.handled = none) (hdp : A.depth ≤ 500) (X : (hd.heap_39 w.params).In s.heap) (T : Top p loose mean mg mb s.heap)
    (hQ : ∀ h' tk, s.heap.StaysIn h' → Q (.bool false) { s with heap := h', toks := tk }) : wpAny (model PySem.Challenge.rw_ku0026_01.row.prog w) A (call (.ref 122) [.bool false]) Q E s := by
  (rename Frag.In _ _ => X'; revert X'; k_fill; intro X')
  obtain ⟨hd, dp, fr, gd, un⟩ := A
  dsimp only at hh hdp
  subst hh
  (refine wpAny_call ?_; refine' enterS ?g7k1 ?g7k2 ?g7k3 ?g7k4 ?g7k5 ?g7k6 ?g7k7 ?g7k8 ?g7k9 ?g7k10 ?g7k11 ?_; (case g7k1 => assumption); (case g7k2 => assumption); (case g7k3 => k_is); (case g7k4 => k_is); (case g7k5 => first | exact room_of (by assumption) (by decide) | (show _ < recursionLimit; simp only [recursionLimit]; omega)); (case g7k6 => first | exact BindsTo.of_eq rfl | exact binds_K (by assumption) rfl (by k_is) rfl rfl rfl); (case g7k7 => exact locs rfl); (case g7k8 => exact rfl); (case g7k9 => exact rfl); (case g7k10 => exact rfl); (case g7k11 => decide); intro _ _ _ _; (try dsimp only); (try k_fold))
  k_steps
  (try dsimp only); (try k_unfold); (try dsimp only)
  exact hQ _ _ (Fr.keep (by assumption))
set_option maxHeartbeats 1600000 in
theorem c_ascii_buffer {bs : Array UInt8} {t : Tok}
    (hh : A.handled = none) (hdp : A.depth ≤ 500) (X : (hd.heap_39 w.params).In s.heap) (T : Top p loose mean mg mb s.heap)
    (hQ : ∀ t' h' tk, s.heap.StaysIn h' → Q (.bytes bs t') { s with heap := h', toks := tk }) : wpAny (model PySem.Challenge.rw_ku0026_01.row.prog w) A (call (.ref 108) [.bytes bs t]) Q E s := by
  (rename Frag.In _ _ => X'; revert X'; k_fill; intro X')
  obtain ⟨hd, dp, fr, gd, un⟩ := A
  dsimp only at hh hdp
  subst hh
  (refine wpAny_call ?_; refine' enterS ?g8k1 ?g8k2 ?g8k3 ?g8k4 ?g8k5 ?g8k6 ?g8k7 ?g8k8 ?g8k9 ?g8k10 ?g8k11 ?_; (case g8k1 => assumption); (case g8k2 => assumption); (case g8k3 => k_is); (case g8k4 => k_is); (case g8k5 => first | exact room_of (by assumption) (by decide) | (show _ < recursionLimit; simp only [recursionLimit]; omega)); (case g8k6 => first | exact BindsTo.of_eq rfl | exact binds_K (by assumption) rfl (by k_is) rfl rfl rfl); (case g8k7 => exact locs rfl); (case g8k8 => exact rfl); (case g8k9 => exact rfl); (case g8k10 => exact rfl); (case g8k11 => decide); intro _ _ _ _; (try dsimp only); (try k_fold))
  k_steps
  (try dsimp only); (try k_unfold); (try dsimp only)
  exact hQ _ _ _ (Fr.keep (by assumption))
set_option maxHeartbeats 1600000 in
theorem c_from_decode {l : List Nat} {t : Tok} (hl : l.length = 8) (ha : ∀ c ∈ l, c < 128)
    (hh : A.handled = none) (hdp : A.depth ≤ 500) (X : (hd.heap_39 w.params).In s.heap) (T : Top p loose mean mg mb s.heap)
    (hQ : ∀ t' h' tk, s.heap.StaysIn h' → Q (.bytes (l.map (·.toUInt8)).toArray t') { s with heap := h', toks := tk }) : wpAny (model PySem.Challenge.rw_ku0026_01.row.prog w) A (call (.ref 88) [.str ⟨l.toArray⟩ t]) Q E s := by
  (rename Frag.In _ _ => X'; revert X'; k_fill; intro X')
  obtain ⟨hd, dp, fr, gd, un⟩ := A
  dsimp only at hh hdp
  subst hh
  (refine wpAny_call ?_; refine' enterS ?g9k1 ?g9k2 ?g9k3 ?g9k4 ?g9k5 ?g9k6 ?g9k7 ?g9k8 ?g9k9 ?g9k10 ?g9k11 ?_; (case g9k1 => assumption); (case g9k2 => assumption); (case g9k3 => k_is); (case g9k4 => k_is); (case g9k5 => first | exact room_of (by assumption) (by decide) | (show _ < recursionLimit; simp only [recursionLimit]; omega)); (case g9k6 => first | exact BindsTo.of_eq rfl | exact binds_K (by assumption) rfl (by k_is) rfl rfl rfl); (case g9k7 => exact locs rfl); (case g9k8 => exact rfl); (case g9k9 => exact rfl); (case g9k10 => exact rfl); (case g9k11 => decide); intro _ _ _ _; (try dsimp only); (try k_fold))
  k_steps
  (try dsimp only); (try k_unfold); (try dsimp only)
  exact hQ _ _ _ (Fr.keep (by assumption))
end

-- a for loop over written bytes, turn by turn
section
variable {prog : Program} {w : World} {A : Around} {E : Value → Shared → Prop} {s : Shared} {env : Env} {h₀ : Heap} {x : Str} {body : List Stmt} {Q : Flow → Shared → Prop}
def BytesRest (prog : Program) (w : World) (A : Around) (E : Value → Shared → Prop) (h₀ : Heap) (env : Env) (x : Str) (body : List Stmt) (Q : Flow → Shared → Prop) (s : Shared) (I : Addr) : List UInt8 → (Str → Option Value) → List (Addr × Obj) → Prop
  | [], m, news => ∀ h tk, Fr h₀ env.locals h m → News h₀ env.locals h news → Q .next { s with heap := h, toks := tk }
  | c :: r, m, news => ∀ (it : Obj) h tk u, it.cls = .type "bytes_iterator" → Fr h₀ env.locals h (fun y => if y = x then some (.int (c.toNat : Int) u) else m y) → News h₀ env.locals h ((I, it) :: news) →
      wpAny (model prog w) A (execs body env) (UnrPost h₀ env.locals { s with heap := h, toks := tk } I it (BytesRest prog w A E h₀ env x body Q s I r) Q) E { s with heap := h, toks := tk }
theorem BytesRest.zero {I : Addr} {m : Str → Option Value} {news : List (Addr × Obj)} (h : ∀ h tk, Fr h₀ env.locals h m → News h₀ env.locals h news → Q .next { s with heap := h, toks := tk }) :
    BytesRest prog w A E h₀ env x body Q s I [] m news := h
theorem BytesRest.succ {I : Addr} {c : UInt8} {r : List UInt8} {m : Str → Option Value} {news : List (Addr × Obj)}
    (h : ∀ (it : Obj) h tk u, it.cls = .type "bytes_iterator" → Fr h₀ env.locals h (fun y => if y = x then some (.int (c.toNat : Int) u) else m y) → News h₀ env.locals h ((I, it) :: news) →
      wpAny (model prog w) A (execs body env) (UnrPost h₀ env.locals { s with heap := h, toks := tk } I it (BytesRest prog w A E h₀ env x body Q s I r) Q) E { s with heap := h, toks := tk }) :
    BytesRest prog w A E h₀ env x body Q s I (c :: r) m news := h
theorem iter_bytesUnr {cs : List UInt8} {tb : Tok} {m₀ : Str → Option Value} {news : List (Addr × Obj)}
    (hh : A.handled = none) (F : Fr h₀ env.locals s.heap m₀) (N : News h₀ env.locals s.heap news)
    (rest₀ : ∀ I : Addr, (∀ p ∈ news, p.1 < I) → BytesRest prog w A E h₀ env x body Q s I cs m₀ news) :
    wpAny (model prog w) A (pyIter (.bytes cs.toArray tb)) (fun it s₂ => LoopAtV prog w A h₀ env x body Q E it s₂) E s := by
  refine KBw.pyIter_bytes ?_
  have rest := rest₀ s.heap.objs.size fun p hp => Heap.lt_size (N p hp).1
  have W := KBw.walks (prog := prog) (w := w) hh s.heap.objs.size cs.toArray tb
  have hnew := next_is_new F
  rw [List.size_toArray] at W
  let J : Nat → (Str → Option Value) → List (Addr × Obj) → Prop := fun i m₁ news₁ => BytesRest prog w A E h₀ env x body Q s s.heap.objs.size (cs.drop i) m₁ news₁
  refine ⟨_, _, _, cs.length, _, _, m₀, news, J, rfl, W, ?_, ?_, ?_, ⟨_, Heap.get?_push_size _ rfl, rfl, rfl⟩, F.push _, (fun p hp => ⟨Heap.get?_push_of_some _ (N p hp).1, (N p hp).2⟩), (by show BytesRest _ _ _ _ _ _ _ _ _ _ _ (cs.drop 0) _ _; rw [List.drop_zero]; exact rest), ?_, ?_⟩
  · intro hm
    exact absurd F.ns.lt ((List.mem_singleton.mp hm) ▸ Nat.lt_irrefl _)
  · intro b hb
    rw [List.mem_singleton.mp hb]
    exact hnew
  · intro p hp hI
    exact absurd (Heap.lt_size (N p hp).1) ((List.mem_singleton.mp hI) ▸ Nat.lt_irrefl _)
  · rintro i v m₁ news₁ s₁ own ⟨hh', tk', rfl⟩ hin ⟨c, u, hc, rfl⟩ hJ hoff hown hget hall hst F₁ N₁
    obtain ⟨it, hit, hic, hid⟩ := hst
    have hmemI := hall s.heap.objs.size (List.mem_singleton.mpr rfl) hnew _ hit
    have hdrop : cs.drop i = c :: cs.drop (i + 1) := by
      have hlt' : i < cs.length := hin
      have hv : cs[i]? = some c := by simpa using hc
      rw [List.drop_eq_getElem_cons hlt']
      congr 1
      exact Option.some.inj ((List.getElem?_eq_getElem hlt').symm.trans hv)
    have hJ' : BytesRest prog w A E h₀ env x body Q s s.heap.objs.size (c :: cs.drop (i + 1)) m₁ news₁ := by rw [← hdrop]; exact hJ
    have N₂ : News h₀ env.locals hh' ((s.heap.objs.size, it) :: news₁) := fun p hp => by
      rcases List.mem_cons.mp hp with rfl | hp
      · exact N₁ _ (List.mem_append_left _ hmemI)
      · exact N₁ _ (List.mem_append_right _ hp)
    refine wpAny_mono (hJ' it hh' tk' u hic F₁ N₂) (fun f s₂ p => ?_) fun _ _ e => e
    have fin : UnrEnd h₀ env.locals { s with heap := hh', toks := tk' } s.heap.objs.size it (BytesRest prog w A E h₀ env x body Q s s.heap.objs.size (cs.drop (i + 1))) s₂ →
        LoopStepU h₀ env.locals [s.heap.objs.size] own (J (i + 1)) { s with heap := hh', toks := tk' } .next s₂ := by
      rintro ⟨h', tk, m', news', e, F', N', ho, r⟩
      refine ⟨rfl, h', tk, m', news', e, F', fun p hp => ?_, fun p hp hI => ho p hp (List.mem_singleton.mp hI), r⟩
      rcases List.mem_append.mp hp with hp | hp
      · have h2 : hh'.get? p.1 = some p.2 := hget p hp
        have h1 := List.mem_singleton.mp (hown p hp)
        have h3 : p = (s.heap.objs.size, it) := by
          rw [h1, hit] at h2
          exact Prod.ext h1 (Option.some.inj h2).symm
        rw [h3]; exact N' _ (List.mem_cons_self ..)
      · exact N' _ (List.mem_cons_of_mem _ hp)
    cases f with
    | ret v => exact .ret p
    | brk => exact .brk p
    | next => exact .next (fin p)
    | cont => exact .cont (fin p)
  · rintro h' tk m' news' F' N' _ hJ
    have z : cs.drop cs.length = [] := List.drop_length
    have hJ' : BytesRest prog w A E h₀ env x body Q s s.heap.objs.size [] m' news' := by rw [← z]; exact hJ
    exact hJ' h' tk F' N'
theorem unrEnd_head {L I : Addr} {it : Obj} {rest : (Str → Option Value) → List (Addr × Obj) → Prop} {s₁ : Shared} {h' : Heap} {tk : Nat} {m' : Str → Option Value} {news' : List (Addr × Obj)} (F : Fr h₀ L h' m') (N : News h₀ L h' ((I, it) :: news'))
    (off : ClsOff it news') (r : rest m' news') : UnrEnd h₀ L s₁ I it rest { s₁ with heap := h', toks := tk } :=
  UnrEnd.intro F N news' (fun p hp => hp) (fun p hp e => by
    have h1 := (N _ (.tail _ hp)).1
    have h2 := (N _ (.head _)).1
    rw [e] at h1
    exact off.ne p hp (congrArg Obj.cls (Option.some.inj (h1.symm.trans h2)))) r
end

section
variable {prog : Program} {w : World} {A : Around} {E : Value → Shared → Prop} {s : Shared} {a n b c m : Int} {t u : Tok} {Q : Value → Shared → Prop} {k : Nat}
theorem c1p : (1 : Int) = ((2 ^ 0 : Nat) : Int) := rfl
theorem c4 : (4 : Int) = ((2 ^ 2 : Nat) : Int) := rfl
theorem c16 : (16 : Int) = ((2 ^ 4 : Nat) : Int) := rfl
theorem c64 : (64 : Int) = ((2 ^ 6 : Nat) : Int) := rfl
theorem c256 : (256 : Int) = ((2 ^ 8 : Nat) : Int) := rfl
theorem shl_c (hc : c = ((2 ^ k : Nat) : Int)) (hn : n = (k : Int)) (ha0 : 0 ≤ a) (ha : a < 65536) (hk : k ≤ 16) (h : Q (.int (a * c) s.toks) { s with toks := s.toks + 1 }) : wpAny (model prog w) A (binaryOp .LShift (.int a t) (.int n u)) Q E s := by
  subst hc
  exact lshift_k hn (Nat.lt_of_lt_of_le (show a.natAbs < 2 ^ 16 by omega) (Nat.pow_le_pow_right (by decide) (by decide))) (by omega) h
theorem shr_c (hc : c = ((2 ^ k : Nat) : Int)) (hn : n = (k : Int)) (h : Q (.int (a / c) s.toks) { s with toks := s.toks + 1 }) : wpAny (model prog w) A (binaryOp .RShift (.int a t) (.int n u)) Q E s := by
  subst hc
  exact rshift_k hn h
theorem and_c (hc : c = ((2 ^ k : Nat) : Int)) (hm : m = c - 1) (h : Q (.int (a % c) s.toks) { s with toks := s.toks + 1 }) : wpAny (model prog w) A (binaryOp .BitAnd (.int a t) (.int m u)) Q E s := by
  subst hm hc
  refine and_int ?_
  have e : Builtin.bitAnd a (((2 ^ k : Nat) : Int) - 1) = a % ((2 ^ k : Nat) : Int) := by rw [← pow_cast]; exact kbt_mask a k
  rw [e]; exact h
theorem or_c (hc : c = ((2 ^ k : Nat) : Int)) (ha : 0 ≤ a) (hb : 0 ≤ b) (hb2 : b < c) (h : Q (.int (a * c + b) s.toks) { s with toks := s.toks + 1 }) : wpAny (model prog w) A (binaryOp .BitOr (.int (a * c) t) (.int b u)) Q E s := by
  subst hc
  exact or_shift ha hb hb2 h
end
--{
local macro_rules | `(tactic| walk_at "ite") => `(tactic| (refine split_ieq (fun hc' => absurd hc' (by assumption)) (fun _ => ?_)))
local macro_rules | `(tactic| walk_at "binaryOp LShift int int") => `(tactic| (first
  | with_reducible refine shl_c c4 (by first | rfl | decide) (by omega) (by omega) (by decide) ?_
  | with_reducible refine shl_c c16 (by first | rfl | decide) (by omega) (by omega) (by decide) ?_
  | with_reducible refine shl_c c64 (by first | rfl | decide) (by omega) (by omega) (by decide) ?_
  | with_reducible refine shl_c c256 (by first | rfl | decide) (by omega) (by omega) (by decide) ?_))
local macro_rules | `(tactic| walk_at "binaryOp RShift int int") => `(tactic| (first
  | with_reducible refine shr_c c1p (by first | rfl | decide) ?_
  | with_reducible refine shr_c c4 (by first | rfl | decide) ?_
  | with_reducible refine shr_c c16 (by first | rfl | decide) ?_
  | with_reducible refine shr_c c64 (by first | rfl | decide) ?_))
local macro_rules | `(tactic| walk_at "binaryOp BitAnd int int") => `(tactic| (first
  | with_reducible refine and_c c4 (by first | rfl | decide) ?_
  | with_reducible refine and_c c16 (by first | rfl | decide) ?_
  | with_reducible refine and_c c64 (by first | rfl | decide) ?_
  | with_reducible refine and_c (c := 65536) (k := 16) rfl (by first | rfl | decide) ?_))
local macro_rules | `(tactic| walk_at "binaryOp BitOr int int") => `(tactic| (first
  | with_reducible refine or_c c4 (by omega) (by omega) (by omega) ?_
  | with_reducible refine or_c c16 (by omega) (by omega) (by omega) ?_
  | with_reducible refine or_c c64 (by omega) (by omega) (by omega) ?_
  | with_reducible refine or_c c256 (by omega) (by omega) (by omega) ?_))
--}

def unb64 : List Int → List Int
  | [d0, d1, d2, d3, d4, d5, d6, d7] => [d0 * 4 + d1 / 16, d1 % 16 * 16 + d2 / 4, d2 % 4 * 64 + d3, d4 * 4 + d5 / 16, d5 % 16 * 16 + d6 / 4, d6 % 4 * 64 + d7]
  | _ => []
-- the body of the first for loop in a def's text
def forB : List Stmt → List Stmt
  | [] => []
  | .For _ _ bd _ _ :: _ => bd
  | _ :: r => forB r
noncomputable def a2bB : List Stmt := by
  refine' (fun (o : List Stmt) (_ : o = forB (LH.dAt 20).body) => o) _ ?h
  case h => dsimp only [LH.dAt, PySem.Challenge.pw_ku0026_01, List.drop, forB]; exact rfl
noncomputable def a2bS : Scope := by
  refine' (fun (o : Scope) (_ : o = (LH.dAt 20).scope) => o) _ ?h
  case h => dsimp only [LH.dAt, PySem.Challenge.pw_ku0026_01, List.drop]; exact rfl
-- a2b_base64's names while its loop runs
def mA (O : Addr) (mz : Str → Option Value) (i lc q : Int) (ti tp tl tq : Tok) (tc : Option Value) : Str → Option Value := fun y =>
  if y = Str.ofString "i" then some (.int i ti) else if y = Str.ofString "pads" then some (.int 0 tp) else if y = Str.ofString "leftchar" then some (.int lc tl)
  else if y = Str.ofString "quad_pos" then some (.int q tq) else if y = Str.ofString "this_ch" then tc else if y = Str.ofString "out" then some (.ref O)
  else if y = Str.ofString "strict_mode" then some (.bool false) else mz y
section
variable {α : Type} {n1 n2 n3 n4 n5 : Str} {v1 v2 v3 v4 v5 v6 w1 w2 w3 w4 w5 : α} {m : Str → α}
theorem ite_skip {y n : Str} {a b c : α} (h : b = c) : (if y = n then a else b) = if y = n then a else c := by rw [h]
theorem ite_drop {y : Str} {n : Str} {a b c c' : α} (h : y ≠ n → b = if y = n then c else c') : (if y = n then a else b) = if y = n then a else c' := by
  by_cases e : y = n
  · rw [if_pos e, if_pos e]
  · rw [if_neg e, if_neg e, h e, if_neg e]
-- the order of the names after a turn of the loop
theorem turn_names (e4 : n4 ≠ n3) (e4' : n4 ≠ n2) {R : (Str → α) → Prop}
    (h : R fun y => if y = n1 then v1 else if y = n4 then v4 else if y = n2 then v2 else if y = n3 then v3 else if y = n5 then v5 else m y) :
    R fun y => if y = n1 then v1 else if y = n2 then v2 else if y = n3 then v3 else if y = n4 then v4 else if y = n5 then v5 else if y = n5 then v6
      else if y = n1 then w1 else if y = n4 then w4 else if y = n2 then w2 else if y = n3 then w3 else if y = n5 then w5 else m y := by
  refine cast (congrArg R (funext fun y => ?_)) h
  by_cases a1 : y = n1
  · simp only [if_pos a1]
  by_cases a2 : y = n2
  · subst a2; simp only [if_neg a1, if_neg (Ne.symm e4'), if_true]
  by_cases a3 : y = n3
  · subst a3; simp only [if_neg a1, if_neg a2, if_neg (Ne.symm e4), if_true]
  by_cases a4 : y = n4
  · simp only [if_neg a1, if_neg a2, if_neg a3, if_pos a4]
  by_cases a5 : y = n5
  · simp only [if_neg a1, if_neg a2, if_neg a3, if_neg a4, if_pos a5]
  simp only [if_neg a1, if_neg a2, if_neg a3, if_neg a4, if_neg a5]
-- a name that is not bound yet, laid in
theorem lay_name {mz : Str → Option α} {a1 a2 a3 a4 a6 a7 : Option α} {n6 n7 : Str} (hz : mz n5 = none) (e1 : n5 ≠ n6) (e2 : n5 ≠ n7) {R : (Str → Option α) → Prop}
    (h : R fun y => if y = n1 then a1 else if y = n2 then a2 else if y = n3 then a3 else if y = n4 then a4 else if y = n5 then none else if y = n6 then a6 else if y = n7 then a7 else mz y) :
    R fun y => if y = n1 then a1 else if y = n2 then a2 else if y = n3 then a3 else if y = n4 then a4 else if y = n6 then a6 else if y = n7 then a7 else mz y := by
  refine cast (congrArg R (funext fun y => ite_skip (ite_skip (ite_skip (ite_skip ?_))))) h
  by_cases a5 : y = n5
  · subst a5; rw [if_pos rfl, if_neg e1, if_neg e2, hz]
  · rw [if_neg a5]
end
theorem oct_a {a b : Int} (h0 : 0 ≤ a) (h1 : a < 64) (h2 : 0 ≤ b) (h3 : b < 64) : 0 ≤ a * 4 + b / 16 ∧ a * 4 + b / 16 < 256 := by omega
theorem oct_b {a b : Int} (h0 : 0 ≤ a) (h2 : 0 ≤ b) (h3 : b < 64) : 0 ≤ a % 16 * 16 + b / 4 ∧ a % 16 * 16 + b / 4 < 256 := by omega
theorem oct_c {a b : Int} (h0 : 0 ≤ a) (h2 : 0 ≤ b) (h3 : b < 64) : 0 ≤ a % 4 * 64 + b ∧ a % 4 * 64 + b < 256 := by omega
theorem in_six {a b c d e f : Int} (h1 : 0 ≤ a ∧ a < 256) (h2 : 0 ≤ b ∧ b < 256) (h3 : 0 ≤ c ∧ c < 256) (h4 : 0 ≤ d ∧ d < 256) (h5 : 0 ≤ e ∧ e < 256) (h6 : 0 ≤ f ∧ f < 256) : KBa.In [a, b, c, d, e, f] := by
  simp only [KBa.In, List.mem_cons, List.not_mem_nil, or_false, forall_eq_or_imp, forall_eq]
  exact ⟨h1, h2, h3, h4, h5, h6⟩
theorem size16 : 16 ≤ sizeLine := by rw [sizeLine_eq]; decide
section
variable {w : World} {s : Shared} {E : Value → Shared → Prop} {Q : Flow → Shared → Prop} {p : Program} {loose : List Str} {mean : ExcName → Option Value} {mg mb : Str → Option Value} {dp un : Nat} {fr : Option (List Env)} {gd : Option (List Code)}
  {h₀ : Heap} {L I O : Addr} {r : List UInt8} {c : UInt8} {mz : Str → Option Value} {tc : Option Value} {i lc d : Int} {ti tp tl tq : Tok} {vs : Array Value} {n : Nat}
-- what is left of a2b_base64's loop
abbrev RA (w : World) (E : Value → Shared → Prop) (Q : Flow → Shared → Prop) (s : Shared) (dp un : Nat) (fr : Option (List Env)) (gd : Option (List Code)) (h₀ : Heap) (L I : Addr) : List UInt8 → (Str → Option Value) → List (Addr × Obj) → Prop :=
  BytesRest PySem.Challenge.rw_ku0026_01.row.prog w (({ depth := dp, frames := fr, guards := gd, units := un } : Around).deeper (envOf (Str.ofString "a2b_base64") a2bS L 137 (.ref 136))) E h₀ (envOf (Str.ofString "a2b_base64") a2bS L 137 (.ref 136)) (Str.ofString "this_ch") a2bB Q s I
section
local macro_rules | `(tactic| walk_at "call builtin:list.append") => `(tactic| (k_here; refine StopHere.go ?_))
set_option maxHeartbeats 1600000 in
theorem turn0 (hdp : dp ≤ 490) (X : (hd.heap_39 w.params).In h₀) (T : Top p loose mean mg mb h₀) (hIO : @LT.lt Nat instLTNat O I) (hv : vs.size ≤ 16) (l0 : 0 ≤ lc) (l1 : lc < 64) (hc : ¬ (c.toNat : Int) = 61) (e0 : b64v (c.toNat : Int) = d) (d0 : 0 ≤ d) (d1 : d < 64)
    (h : ∀ ti' tp' tl' tq' tc' (t' : Tok) n', RA w E Q s dp un fr gd h₀ L I r (mA O mz (i + 1) (d) 1 ti' tp' tl' tq' tc') [(O, W.listOf (vs) n')]) :
    RA w E Q s dp un fr gd h₀ L I (c :: r) (mA O mz i lc 0 ti tp tl tq tc) [(O, W.listOf vs n)] := by
  unfold RA at h ⊢
  revert X; k_fill; intro X
  generalize hR : BytesRest _ _ _ _ _ _ _ _ _ _ _ r = R at h
  refine BytesRest.succ (fun it h1 tk u hit F N => ?_)
  rw [hR]
  clear hR
  dsimp only [a2bB, a2bS, mA] at F N ⊢
  k_steps
  rename Fr _ _ _ _ => F2
  rename News _ _ _ _ => N2
  refine c_b64_value (e0 ▸ d1) rfl (le_up hdp (by decide) : dp + 1 ≤ 500) (X.keeps F2.keep) (T.keeps F2.keep) ?_
  intro u0 h0 k0 s0
  rw [e0]
  have F3 := F2.keeps s0
  have N3 := N2.grown s0
  clear F2 N2
  k_steps
  rename Fr _ _ _ _ => F2
  rename News _ _ _ _ => N2
  refine unrEnd_head F2 N2 (ClsOffN.off (by assumption) (by k_clsL)) ?_
  exact turn_names (by decide) (by decide) (R := fun m => R m _) (h _ _ _ _ _ 0 _)
set_option maxHeartbeats 1600000 in
theorem turn1 (hdp : dp ≤ 490) (X : (hd.heap_39 w.params).In h₀) (T : Top p loose mean mg mb h₀) (hIO : @LT.lt Nat instLTNat O I) (hv : vs.size ≤ 16) (l0 : 0 ≤ lc) (l1 : lc < 64) (hc : ¬ (c.toNat : Int) = 61) (e0 : b64v (c.toNat : Int) = d) (d0 : 0 ≤ d) (d1 : d < 64)
    (h : ∀ ti' tp' tl' tq' tc' (t' : Tok) n', RA w E Q s dp un fr gd h₀ L I r (mA O mz (i + 1) (d % 16) 2 ti' tp' tl' tq' tc') [(O, W.listOf (vs.push (.int (lc * 4 + d / 16) t')) n')]) :
    RA w E Q s dp un fr gd h₀ L I (c :: r) (mA O mz i lc 1 ti tp tl tq tc) [(O, W.listOf vs n)] := by
  unfold RA at h ⊢
  revert X; k_fill; intro X
  generalize hR : BytesRest _ _ _ _ _ _ _ _ _ _ _ r = R at h
  refine BytesRest.succ (fun it h1 tk u hit F N => ?_)
  rw [hR]
  clear hR
  dsimp only [a2bB, a2bS, mA] at F N ⊢
  k_steps
  rename Fr _ _ _ _ => F2
  rename News _ _ _ _ => N2
  refine c_b64_value (e0 ▸ d1) rfl (le_up hdp (by decide) : dp + 1 ≤ 500) (X.keeps F2.keep) (T.keeps F2.keep) ?_
  intro u0 h0 k0 s0
  rw [e0]
  have F3 := F2.keeps s0
  have N3 := N2.grown s0
  clear F2 N2
  k_steps
  unfold StopHere
  rename Fr _ _ _ _ => F2
  rename News _ _ _ _ => N2
  refine append_K F2 N2 (by k_upd) ?_ (Nat.le_trans hv size16)
  intro h3 F3 N3
  clear F2 N2
  k_steps
  rename Fr _ _ _ _ => F2
  rename News _ _ _ _ => N2
  refine unrEnd_head F2 N2 (ClsOffN.off (by assumption) (by k_clsL)) ?_
  exact turn_names (by decide) (by decide) (R := fun m => R m _) (h _ _ _ _ _ _ _)
set_option maxHeartbeats 1600000 in
theorem turn2 (hdp : dp ≤ 490) (X : (hd.heap_39 w.params).In h₀) (T : Top p loose mean mg mb h₀) (hIO : @LT.lt Nat instLTNat O I) (hv : vs.size ≤ 16) (l0 : 0 ≤ lc) (l1 : lc < 64) (hc : ¬ (c.toNat : Int) = 61) (e0 : b64v (c.toNat : Int) = d) (d0 : 0 ≤ d) (d1 : d < 64)
    (h : ∀ ti' tp' tl' tq' tc' (t' : Tok) n', RA w E Q s dp un fr gd h₀ L I r (mA O mz (i + 1) (d % 4) 3 ti' tp' tl' tq' tc') [(O, W.listOf (vs.push (.int (lc * 16 + d / 4) t')) n')]) :
    RA w E Q s dp un fr gd h₀ L I (c :: r) (mA O mz i lc 2 ti tp tl tq tc) [(O, W.listOf vs n)] := by
  unfold RA at h ⊢
  revert X; k_fill; intro X
  generalize hR : BytesRest _ _ _ _ _ _ _ _ _ _ _ r = R at h
  refine BytesRest.succ (fun it h1 tk u hit F N => ?_)
  rw [hR]
  clear hR
  dsimp only [a2bB, a2bS, mA] at F N ⊢
  k_steps
  rename Fr _ _ _ _ => F2
  rename News _ _ _ _ => N2
  refine c_b64_value (e0 ▸ d1) rfl (le_up hdp (by decide) : dp + 1 ≤ 500) (X.keeps F2.keep) (T.keeps F2.keep) ?_
  intro u0 h0 k0 s0
  rw [e0]
  have F3 := F2.keeps s0
  have N3 := N2.grown s0
  clear F2 N2
  k_steps
  unfold StopHere
  rename Fr _ _ _ _ => F2
  rename News _ _ _ _ => N2
  refine append_K F2 N2 (by k_upd) ?_ (Nat.le_trans hv size16)
  intro h3 F3 N3
  clear F2 N2
  k_steps
  rename Fr _ _ _ _ => F2
  rename News _ _ _ _ => N2
  refine unrEnd_head F2 N2 (ClsOffN.off (by assumption) (by k_clsL)) ?_
  exact turn_names (by decide) (by decide) (R := fun m => R m _) (h _ _ _ _ _ _ _)
set_option maxHeartbeats 1600000 in
theorem turn3 (hdp : dp ≤ 490) (X : (hd.heap_39 w.params).In h₀) (T : Top p loose mean mg mb h₀) (hIO : @LT.lt Nat instLTNat O I) (hv : vs.size ≤ 16) (l0 : 0 ≤ lc) (l1 : lc < 64) (hc : ¬ (c.toNat : Int) = 61) (e0 : b64v (c.toNat : Int) = d) (d0 : 0 ≤ d) (d1 : d < 64)
    (h : ∀ ti' tp' tl' tq' tc' (t' : Tok) n', RA w E Q s dp un fr gd h₀ L I r (mA O mz (i + 1) (0) 0 ti' tp' tl' tq' tc') [(O, W.listOf (vs.push (.int (lc * 64 + d) t')) n')]) :
    RA w E Q s dp un fr gd h₀ L I (c :: r) (mA O mz i lc 3 ti tp tl tq tc) [(O, W.listOf vs n)] := by
  unfold RA at h ⊢
  revert X; k_fill; intro X
  generalize hR : BytesRest _ _ _ _ _ _ _ _ _ _ _ r = R at h
  refine BytesRest.succ (fun it h1 tk u hit F N => ?_)
  rw [hR]
  clear hR
  dsimp only [a2bB, a2bS, mA] at F N ⊢
  k_steps
  rename Fr _ _ _ _ => F2
  rename News _ _ _ _ => N2
  refine c_b64_value (e0 ▸ d1) rfl (le_up hdp (by decide) : dp + 1 ≤ 500) (X.keeps F2.keep) (T.keeps F2.keep) ?_
  intro u0 h0 k0 s0
  rw [e0]
  have F3 := F2.keeps s0
  have N3 := N2.grown s0
  clear F2 N2
  k_steps
  unfold StopHere
  rename Fr _ _ _ _ => F2
  rename News _ _ _ _ => N2
  refine append_K F2 N2 (by k_upd) ?_ (Nat.le_trans hv size16)
  intro h3 F3 N3
  clear F2 N2
  k_steps
  rename Fr _ _ _ _ => F2
  rename News _ _ _ _ => N2
  refine unrEnd_head F2 N2 (ClsOffN.off (by assumption) (by k_clsL)) ?_
  exact turn_names (by decide) (by decide) (R := fun m => R m _) (h _ _ _ _ _ _ _)
end
variable {A : Around} {Q E : Value → Shared → Prop}
local macro_rules | `(tactic| walk_at "pyIter bytes") => `(tactic| (k_here; refine StopHere.go ?_))
local macro_rules | `(tactic| walk_at "call type:bytes cons nil") => `(tactic| (k_here; refine StopHere.go ?_))
set_option maxHeartbeats 1600000 in
theorem c_a2b {l : List UInt8} {t : Tok} (hl : l.length = 8) (ha : ∀ c ∈ l, 0 ≤ b64v c.toNat ∧ b64v c.toNat < 64 ∧ ¬ (c.toNat : Int) = 61)
    (hh : A.handled = none) (hdp : A.depth ≤ 490) (X : (hd.heap_39 w.params).In s.heap) (T : Top p loose mean mg mb s.heap)
    (hQ : ∀ t' h' tk, s.heap.StaysIn h' → Q (.bytes (byteArr (unb64 (l.map fun c => b64v (c.toNat : Int)))) t') { s with heap := h', toks := tk }) : wpAny (model PySem.Challenge.rw_ku0026_01.row.prog w) A (call (.ref 137) [.bytes l.toArray t] [(Str.ofString "strict_mode", .bool false)]) Q E s := by
  (rename Frag.In _ _ => X'; revert X'; k_fill; intro X')
  obtain ⟨hd, dp, fr, gd, un⟩ := A
  dsimp only at hh hdp
  subst hh
  obtain ⟨x0, x1, x2, x3, x4, x5, x6, x7, rfl⟩ := Codec.len8 hl
  clear hl
  simp only [List.mem_cons, List.not_mem_nil, or_false, forall_eq_or_imp, forall_eq] at ha
  simp only [List.map, unb64] at hQ
  (refine wpAny_call ?_; refine' enterS ?g10k1 ?g10k2 ?g10k3 ?g10k4 ?g10k5 ?g10k6 ?g10k7 ?g10k8 ?g10k9 ?g10k10 ?g10k11 ?_; (case g10k1 => assumption); (case g10k2 => assumption); (case g10k3 => k_is); (case g10k4 => k_is); (case g10k5 => first | exact room_of (by assumption) (by decide) | (show _ < recursionLimit; simp only [recursionLimit]; omega)); (case g10k6 => first | exact BindsTo.of_eq rfl | exact binds_K (by assumption) rfl (by k_is) rfl rfl rfl); (case g10k7 => exact locs rfl); (case g10k8 => exact rfl); (case g10k9 => exact rfl); (case g10k10 => exact rfl); (case g10k11 => decide); intro _ _ _ _; (try dsimp only); (try k_fold))
  rename Frag.In _ s.heap => X'
  k_steps
  rename Fr _ _ _ _ => F2
  rename News _ _ _ _ => N2
  refine c_ascii_buffer rfl (le_up hdp (by decide) : dp + 1 ≤ 500) (X'.keeps F2.keep) (T.keeps F2.keep) ?_
  intro t1 h1 tk1 st1
  have F3 := F2.keeps st1
  have N3 := N2.grown st1
  clear F2 N2
  k_steps
  rename Fr _ _ _ _ => F2
  rename News _ _ _ _ => N2
  refine c_truth rfl (le_up hdp (by decide) : dp + 1 ≤ 500) (X'.keeps F2.keep) (T.keeps F2.keep) ?_
  intro h1 tk1 st1
  have F3 := F2.keeps st1
  have N3 := N2.grown st1
  clear F2 N2
  k_steps
  unfold StopHere
  rename Fr _ _ _ _ => F2
  rename News _ _ _ _ => N2
  with_unfolding_all refine iter_bytesUnr (by rfl) F2 N2 ?_
  clear F2 N2
  intro i9 hI9
  have hIO := hI9 _ (.head _)
  obtain ⟨a0, a1, a2, a3, a4, a5, a6, a7⟩ := ha
  refine lay_name (n5 := Str.ofString "this_ch") (by rfl) (by decide) (by decide) (R := fun m => BytesRest _ _ _ _ _ _ _ _ _ _ _ _ m _) ?_
  refine turn0 hdp X' T hIO (Nat.le_of_ble_eq_true rfl) (by decide) (by decide) a0.2.2 rfl a0.1 a0.2.1 (fun _ _ _ _ _ _ _ => ?_)
  refine turn1 hdp X' T hIO (Nat.le_of_ble_eq_true rfl) a0.1 a0.2.1 a1.2.2 rfl a1.1 a1.2.1 (fun _ _ _ _ _ _ _ => ?_)
  refine turn2 hdp X' T hIO (Nat.le_of_ble_eq_true rfl) (by omega) (by omega) a2.2.2 rfl a2.1 a2.2.1 (fun _ _ _ _ _ _ _ => ?_)
  refine turn3 hdp X' T hIO (Nat.le_of_ble_eq_true rfl) (by omega) (by omega) a3.2.2 rfl a3.1 a3.2.1 (fun _ _ _ _ _ _ _ => ?_)
  refine turn0 hdp X' T hIO (Nat.le_of_ble_eq_true rfl) (by decide) (by decide) a4.2.2 rfl a4.1 a4.2.1 (fun _ _ _ _ _ _ _ => ?_)
  refine turn1 hdp X' T hIO (Nat.le_of_ble_eq_true rfl) a4.1 a4.2.1 a5.2.2 rfl a5.1 a5.2.1 (fun _ _ _ _ _ _ _ => ?_)
  refine turn2 hdp X' T hIO (Nat.le_of_ble_eq_true rfl) (by omega) (by omega) a6.2.2 rfl a6.1 a6.2.1 (fun _ _ _ _ _ _ _ => ?_)
  refine turn3 hdp X' T hIO (Nat.le_of_ble_eq_true rfl) (by omega) (by omega) a7.2.2 rfl a7.1 a7.2.1 (fun _ _ _ _ _ _ _ => ?_)
  refine BytesRest.zero (fun h' tk' F' N' => ?_)
  dsimp only [mA, a2bS] at F' N' ⊢
  k_steps
  unfold StopHere
  rename Fr _ _ _ _ => F2
  rename News _ _ _ _ => N2
  refine KBa.make_K F2 N2 rfl (by exact isList_news N2 (by k_mem)) (.cons _ _ (.cons _ _ (.cons _ _ (.cons _ _ (.cons _ _ (.cons _ _ .nil)))))) (in_six (oct_a a0.1 a0.2.1 a1.1 a1.2.1) (oct_b a1.1 a2.1 a2.2.1) (oct_c a2.1 a3.1 a3.2.1) (oct_a a4.1 a4.2.1 a5.1 a5.2.1) (oct_b a5.1 a6.1 a6.2.1) (oct_c a6.1 a7.1 a7.2.1)) (Nat.le_of_ble_eq_true rfl) ?_
  intro h3 t3 k3 F3 N3 _
  clear F2 N2
  k_steps
  (try dsimp only); (try k_unfold); (try dsimp only)
  exact hQ _ _ _ (Fr.keep (by assumption))
end

theorem call_kw {M : Model} {A : Around} {s : Shared} {Q E : Value → Shared → Prop} {f : Value} {args : List Value} {kw kw' : List (Str × Value)} (e : kw = kw') (h : wpAny M A (call f args kw') Q E s) : wpAny M A (call f args kw) Q E s := e ▸ h
section
variable {w : World} {A : Around} {s : Shared} {Q E : Value → Shared → Prop} {p : Program} {loose : List Str} {mean : ExcName → Option Value} {mg mb : Str → Option Value}
set_option maxHeartbeats 1600000 in
theorem c_b64decode {l : List Nat} {t : Tok} (hl : l.length = 8) (ha : ∀ c ∈ l, c < 128) (hb : ∀ c ∈ l, 0 ≤ b64v (c : Int) ∧ b64v (c : Int) < 64 ∧ ¬ (c : Int) = 61)
    (hh : A.handled = none) (hdp : A.depth ≤ 480) (X : (hd.heap_39 w.params).In s.heap) (T : Top p loose mean mg mb s.heap)
    (hQ : ∀ t' h' tk, s.heap.StaysIn h' → Q (.bytes (byteArr (unb64 (l.map fun c : Nat => b64v (c : Int)))) t') { s with heap := h', toks := tk }) : wpAny (model PySem.Challenge.rw_ku0026_01.row.prog w) A (call (.ref 161) [.str ⟨l.toArray⟩ t]) Q E s := by
  have e8 : ∀ c ∈ l, c.toUInt8.toNat = c := fun c hc => by have := ha c hc; simp; omega
  have em : ((l.map (·.toUInt8)).map fun c => b64v (c.toNat : Int)) = l.map fun c : Nat => b64v (c : Int) := by
    rw [List.map_map]
    exact List.map_congr_left fun c hc => by show b64v ((c.toUInt8.toNat : Nat) : Int) = _; rw [e8 c hc]
  have hb8 : ∀ c ∈ l.map (·.toUInt8), 0 ≤ b64v c.toNat ∧ b64v c.toNat < 64 ∧ ¬ (c.toNat : Int) = 61 := by
    intro c hc
    obtain ⟨d, hd, rfl⟩ := List.mem_map.mp hc
    rw [e8 d hd]; exact hb d hd
  (rename Frag.In _ _ => X'; revert X'; k_fill; intro X')
  obtain ⟨hd, dp, fr, gd, un⟩ := A
  dsimp only at hh hdp
  subst hh
  (refine wpAny_call ?_; refine' enterS ?g11k1 ?g11k2 ?g11k3 ?g11k4 ?g11k5 ?g11k6 ?g11k7 ?g11k8 ?g11k9 ?g11k10 ?g11k11 ?_; (case g11k1 => assumption); (case g11k2 => assumption); (case g11k3 => k_is); (case g11k4 => k_is); (case g11k5 => first | exact room_of (by assumption) (by decide) | (show _ < recursionLimit; simp only [recursionLimit]; omega)); (case g11k6 => first | exact BindsTo.of_eq rfl | exact binds_K (by assumption) rfl (by k_is) rfl rfl rfl); (case g11k7 => exact locs rfl); (case g11k8 => exact rfl); (case g11k9 => exact rfl); (case g11k10 => exact rfl); (case g11k11 => decide); intro _ _ _ _; (try dsimp only); (try k_fold))
  rename Frag.In _ s.heap => X'
  k_steps
  rename Fr _ _ _ _ => F2
  rename News _ _ _ _ => N2
  refine c_from_decode hl ha rfl (le_up hdp (by decide) : dp + 1 ≤ 500) (X'.keeps F2.keep) (T.keeps F2.keep) ?_
  intro t1 h1 tk1 st1
  have F3 := F2.keeps st1
  have N3 := N2.grown st1
  clear F2 N2
  k_steps
  rename Fr _ _ _ _ => F2
  rename News _ _ _ _ => N2
  refine call_kw (kw' := [(Str.ofString "strict_mode", .bool false)]) (by first | rfl | kernel_rfl) ?_
  refine c_a2b (by rw [List.length_map]; exact hl) hb8 rfl (le_up hdp (by decide) : dp + 1 ≤ 490) (X'.keeps F2.keep) (T.keeps F2.keep) ?_
  rw [em]
  intro t2 h2 tk2 st2
  have F3 := F2.keeps st2
  have N3 := N2.grown st2
  clear F2 N2
  k_steps
  (try dsimp only); (try k_unfold); (try dsimp only)
  exact hQ _ _ _ (Fr.keep (by assumption))
end

def b64c (x : Int) : Int := if x < 26 then x + 65 else if x < 52 then x + 71 else if x < 62 then x - 4 else if x = 62 then 43 else 47
def B64A : Array UInt8 := (((List.range 64).map fun n : Nat => (b64c (n : Int)).toNat.toUInt8)).toArray
theorem ints_b64 : KBw.bInts B64A = (List.range 64).map fun n : Nat => b64c (n : Int) := by decide +kernel
section
variable {prog : Program} {w : World} {A : Around} {E : Value → Shared → Prop} {s : Shared} {a m c : Int} {t u : Tok} {Q : Value → Shared → Prop}
theorem and_65536 (hm : m = 65535) (h : ∀ r, a % 65536 = r → 0 ≤ r → r < 65536 → Q (.int r s.toks) { s with toks := s.toks + 1 }) : wpAny (model prog w) A (binaryOp .BitAnd (.int a t) (.int m u)) Q E s := by
  subst hm
  exact and_c (c := 65536) (k := 16) rfl rfl (h _ rfl (Int.emod_nonneg _ (by decide)) (Int.emod_lt_of_pos _ (by decide)))
theorem item_b64 {value slice : Expr} {i : Int} {b : Array UInt8} (hb : b = B64A) (h0 : 0 ≤ i) (h1 : i < 64) (h : ∀ v t' k, b64c i = v → 0 ≤ v → v < 256 → Q (.int v t') { s with toks := k })
    (hs : subscripted slice false (.bytes b t) (.int i u) = operate [.bytes b t, .int i u] (getItem (.bytes b t) (.int i u)))
    (ht : ∀ r, letTemporaryGo value (.bytes b t) r = pure ()) : wpAny (model prog w) A (subscriptTail value slice (.bytes b t) (.int i u)) Q E s := by
  subst hb
  refine KBw.item_K ints_b64 (by simp) h0 (by simpa using h1) (fun t' k p q => h _ t' k ?_ p q) hs ht
  obtain ⟨n, rfl⟩ := Int.eq_ofNat_of_zero_le h0
  have hn : n < 64 := by omega
  simp [List.getD_eq_getElem?_getD, hn]
end
def b64w : List Int → List Int
  | [o0, o1, o2, o3, o4, o5] => [b64c (o0 / 4), b64c (o0 % 4 * 16 + o1 / 16), b64c (o1 % 16 * 4 + o2 / 64), b64c (o2 % 64), b64c (o3 / 4), b64c (o3 % 4 * 16 + o4 / 16), b64c (o4 % 16 * 4 + o5 / 64), b64c (o5 % 64)]
  | _ => []
noncomputable def b2aB : List Stmt := by
  refine' (fun (o : List Stmt) (_ : o = forB (LH.dAt 21).body) => o) _ ?h
  case h => dsimp only [LH.dAt, PySem.Challenge.pw_ku0026_01, List.drop, forB]; exact rfl
noncomputable def b2aS : Scope := by
  refine' (fun (o : Scope) (_ : o = (LH.dAt 21).scope) => o) _ ?h
  case h => dsimp only [LH.dAt, PySem.Challenge.pw_ku0026_01, List.drop]; exact rfl
-- b2a_base64's names while its loop runs
def mB (O : Addr) (mz : Str → Option Value) (lb lc : Int) (tb tl : Tok) (tc : Option Value) : Str → Option Value := fun y =>
  if y = Str.ofString "leftbits" then some (.int lb tb) else if y = Str.ofString "leftchar" then some (.int lc tl) else if y = Str.ofString "b" then tc else if y = Str.ofString "out" then some (.ref O) else mz y
section
variable {α : Type} {n1 n2 n3 n4 : Str} {v1 v2 v3 v4 w1 w2 w3 : α} {m : Str → α}
theorem dup_name {R : (Str → α) → Prop} (h : R fun y => if y = n1 then v1 else m y) : R fun y => if y = n1 then v1 else if y = n1 then v2 else m y := by
  refine cast (congrArg R (funext fun y => ?_)) h
  by_cases a1 : y = n1
  · rw [if_pos a1, if_pos a1]
  · rw [if_neg a1, if_neg a1, if_neg a1]
theorem turn_namesB {R : (Str → α) → Prop}
    (h : R fun y => if y = n1 then v1 else if y = n2 then v3 else if y = n3 then v4 else m y) :
    R fun y => if y = n1 then v1 else if y = n1 then v2 else if y = n2 then v3 else if y = n3 then v4
      else if y = n1 then w1 else if y = n2 then w2 else if y = n3 then w3 else m y := by
  refine cast (congrArg R (funext fun y => ?_)) h
  by_cases a1 : y = n1
  · simp only [if_pos a1]
  by_cases a2 : y = n2
  · simp only [if_neg a1, if_pos a2]
  by_cases a3 : y = n3
  · simp only [if_neg a1, if_neg a2, if_pos a3]
  simp only [if_neg a1, if_neg a2, if_neg a3]
theorem lay_nameB {mz : Str → Option α} {a1 a2 a4 : Option α} (hz : mz n3 = none) (e : n1 ≠ n2) (e1 : n3 ≠ n4) {R : (Str → Option α) → Prop}
    (h : R fun y => if y = n1 then a1 else if y = n2 then a2 else if y = n3 then none else if y = n4 then a4 else mz y) :
    R fun y => if y = n2 then a2 else if y = n1 then a1 else if y = n4 then a4 else mz y := by
  refine cast (congrArg R (funext fun y => ?_)) h
  by_cases a1 : y = n1
  · subst a1; rw [if_pos rfl, if_neg e, if_pos rfl]
  rw [if_neg a1]
  by_cases a2 : y = n2
  · rw [if_pos a2, if_pos a2]
  rw [if_neg a2, if_neg a2, if_neg a1]
  by_cases a3 : y = n3
  · subst a3; rw [if_pos rfl, if_neg e1, hz]
  · rw [if_neg a3]
end
theorem b64c_bd (x : Int) (h0 : 0 ≤ x) : 43 ≤ b64c x ∧ b64c x < 123 := by unfold b64c; (repeat' split) <;> omega
theorem b64c_bd' (x : Int) (h0 : 0 ≤ x) : 0 ≤ b64c x ∧ b64c x < 256 := ⟨Int.le_trans (by decide) (b64c_bd x h0).1, Int.lt_trans (b64c_bd x h0).2 (by decide)⟩
theorem b2a_0 {x : Int} (k : Int) (hk : 0 ≤ k) (h : 0 ≤ x) : 0 ≤ x / k := Int.ediv_nonneg h hk
theorem b2a_2 {x : Int} (k : Int) (hk : k ≠ 0) (_ : 0 ≤ x) : 0 ≤ x % k := Int.emod_nonneg x hk
theorem b2a_1 {x y : Int} (k m n : Int) (hk : k ≠ 0) (hm : 0 ≤ m) (hn : 0 ≤ n) (_ : 0 ≤ x) (hy : 0 ≤ y) : 0 ≤ x % k * m + y / n :=
  Int.add_nonneg (Int.mul_nonneg (Int.emod_nonneg x hk) hm) (Int.ediv_nonneg hy hn)
theorem b2a_r {a b r : Int} (k : Int) (hk : k ∣ 256) (h : (a * 256 + b) % 65536 = r) : r % k = b % k := by
  subst h
  rw [Int.emod_emod_of_dvd _ (Int.dvd_trans hk (by decide))]
  obtain ⟨q, hq⟩ := hk
  rw [hq, Int.add_comm, ← Int.mul_assoc, Int.mul_comm a k, Int.mul_assoc, Int.add_mul_emod_self_left]
theorem b2a_i0 {a b r : Int} (h : (a * 256 + b) % 65536 = r) (h0 : 0 ≤ b) (h1 : b < 256) : r / 4 % 64 = b / 4 := by omega
theorem b2a_i1 {a b r q : Int} (h : (a * 256 + b) % 65536 = r) (h0 : 0 ≤ b) (h1 : b < 256) (hq : a % 4 = q) : r / 16 % 64 = q * 16 + b / 16 := by omega
theorem b2a_i2 {a b r q : Int} (h : (a * 256 + b) % 65536 = r) (h0 : 0 ≤ b) (h1 : b < 256) (hq : a % 16 = q) : r / 64 % 64 = q * 4 + b / 64 := by omega
theorem b2a_i3 {a b r : Int} (h : (a * 256 + b) % 65536 = r) : r / 1 % 64 = b % 64 := by rw [Int.ediv_one]; exact b2a_r 64 (by decide) h
theorem in_eight {a b c d e f g i : Int} (h1 : 0 ≤ a ∧ a < 256) (h2 : 0 ≤ b ∧ b < 256) (h3 : 0 ≤ c ∧ c < 256) (h4 : 0 ≤ d ∧ d < 256) (h5 : 0 ≤ e ∧ e < 256) (h6 : 0 ≤ f ∧ f < 256) (h7 : 0 ≤ g ∧ g < 256) (h8 : 0 ≤ i ∧ i < 256) : KBa.In [a, b, c, d, e, f, g, i] := by
  simp only [KBa.In, List.mem_cons, List.not_mem_nil, or_false, forall_eq_or_imp, forall_eq]
  exact ⟨h1, h2, h3, h4, h5, h6, h7, h8⟩
theorem byte_lt (c : UInt8) : (c.toNat : Int) < 256 := by have := c.toNat_lt; omega
section
variable {w : World} {s : Shared} {E : Value → Shared → Prop} {Q : Flow → Shared → Prop} {p : Program} {loose : List Str} {mean : ExcName → Option Value} {mg mb : Str → Option Value} {dp un : Nat} {fr : Option (List Env)} {gd : Option (List Code)}
  {h₀ : Heap} {L I O : Addr} {r : List UInt8} {c : UInt8} {mz : Str → Option Value} {tc : Option Value} {lc q : Int} {tb tl : Tok} {vs : Array Value} {n : Nat}
abbrev RB (w : World) (E : Value → Shared → Prop) (Q : Flow → Shared → Prop) (s : Shared) (dp un : Nat) (fr : Option (List Env)) (gd : Option (List Code)) (h₀ : Heap) (L I : Addr) : List UInt8 → (Str → Option Value) → List (Addr × Obj) → Prop :=
  BytesRest PySem.Challenge.rw_ku0026_01.row.prog w (({ depth := dp, frames := fr, guards := gd, units := un } : Around).deeper (envOf (Str.ofString "b2a_base64") b2aS L 145 (.ref 144))) E h₀ (envOf (Str.ofString "b2a_base64") b2aS L 145 (.ref 144)) (Str.ofString "b") b2aB Q s I
local macro_rules | `(tactic| walk_at "subscriptTail") => `(tactic| ((with_reducible show wpAny _ _ (subscriptTail _ _ (Value.bytes _ _) (Value.int _ _)) _ _ _); refine item_b64 (by kernel_rfl) (by omega) (by omega) ?_ (by with_unfolding_all rfl) (by intro _; with_unfolding_all rfl); intro v' _ _ hv' hv0' hv1'))
local macro_rules | `(tactic| walk_at "binaryOp BitAnd int int") => `(tactic| (refine and_65536 (by first | rfl | decide) ?_; intro r' hr' hr0' hr1'))
section
local macro_rules | `(tactic| walk_at "call builtin:list.append") => `(tactic| (k_here; refine StopHere.go ?_))
set_option maxHeartbeats 1600000 in
theorem turnB0 (hdp : dp ≤ 490) (X : (hd.heap_39 w.params).In h₀) (T : Top p loose mean mg mb h₀) (hIO : @LT.lt Nat instLTNat O I) (hv : vs.size ≤ 15) (l0 : 0 ≤ lc) (l1 : lc < 65536)
    (h : ∀ r' t1 t2 t3 (t4 t5 : Tok) n', 0 ≤ r' → r' < 65536 → r' % 4 = (c.toNat : Int) % 4 → RB w (fun _ _ => False) Q s dp un fr gd h₀ L I r (mB O mz 2 r' t1 t2 t3) [(O, W.listOf (vs.push (.int (b64c ((c.toNat : Int) / 4)) t4)) n')]) :
    RB w (fun _ _ => False) Q s dp un fr gd h₀ L I (c :: r) (mB O mz 0 lc tb tl tc) [(O, W.listOf vs n)] := by
  unfold RB at h ⊢
  have hv6 : vs.size ≤ 16 := Nat.le_succ_of_le hv
  revert X; k_fill; intro X
  generalize hR : BytesRest _ _ _ _ _ _ _ _ _ _ _ r = R at h
  refine BytesRest.succ (fun it h1 tk u hit F N => ?_)
  rw [hR]
  clear hR
  dsimp only [b2aB, b2aS, mB] at F N ⊢
  have bb := c.toNat_lt
  k_steps
  unfold StopHere
  rename Fr _ _ _ _ => F2
  rename News _ _ _ _ => N2
  refine append_K F2 N2 (by k_upd) ?_ (Nat.le_trans hv6 size16)
  intro h3 F3 N3
  clear F2 N2
  k_steps
  rename Fr _ _ _ _ => F2
  rename News _ _ _ _ => N2
  refine unrEnd_head F2 N2 (ClsOffN.off (by assumption) (by k_clsL)) ?_
  rename ((_ : Int) * 256 + _) % 65536 = _ => hr
  rename b64c _ = _ => hw; subst hw
  rw [b2a_i0 hr (Int.natCast_nonneg _) (byte_lt c)]
  exact turn_namesB (R := fun m => R m _) (h _ _ _ _ _ 0 _ (by assumption) (by assumption) (b2a_r 4 (by decide) hr))
set_option maxHeartbeats 1600000 in
theorem turnB2 (hdp : dp ≤ 490) (X : (hd.heap_39 w.params).In h₀) (T : Top p loose mean mg mb h₀) (hIO : @LT.lt Nat instLTNat O I) (hv : vs.size ≤ 15) (l0 : 0 ≤ lc) (l1 : lc < 65536) (hp : lc % 4 = q)
    (h : ∀ r' t1 t2 t3 (t4 t5 : Tok) n', 0 ≤ r' → r' < 65536 → r' % 16 = (c.toNat : Int) % 16 → RB w (fun _ _ => False) Q s dp un fr gd h₀ L I r (mB O mz 4 r' t1 t2 t3) [(O, W.listOf (vs.push (.int (b64c (q * 16 + (c.toNat : Int) / 16)) t4)) n')]) :
    RB w (fun _ _ => False) Q s dp un fr gd h₀ L I (c :: r) (mB O mz 2 lc tb tl tc) [(O, W.listOf vs n)] := by
  unfold RB at h ⊢
  have hv6 : vs.size ≤ 16 := Nat.le_succ_of_le hv
  revert X; k_fill; intro X
  generalize hR : BytesRest _ _ _ _ _ _ _ _ _ _ _ r = R at h
  refine BytesRest.succ (fun it h1 tk u hit F N => ?_)
  rw [hR]
  clear hR
  dsimp only [b2aB, b2aS, mB] at F N ⊢
  have bb := c.toNat_lt
  k_steps
  unfold StopHere
  rename Fr _ _ _ _ => F2
  rename News _ _ _ _ => N2
  refine append_K F2 N2 (by k_upd) ?_ (Nat.le_trans hv6 size16)
  intro h3 F3 N3
  clear F2 N2
  k_steps
  rename Fr _ _ _ _ => F2
  rename News _ _ _ _ => N2
  refine unrEnd_head F2 N2 (ClsOffN.off (by assumption) (by k_clsL)) ?_
  rename ((_ : Int) * 256 + _) % 65536 = _ => hr
  rename b64c _ = _ => hw; subst hw
  rw [b2a_i1 hr (Int.natCast_nonneg _) (byte_lt c) hp]
  exact turn_namesB (R := fun m => R m _) (h _ _ _ _ _ 0 _ (by assumption) (by assumption) (b2a_r 16 (by decide) hr))
set_option maxHeartbeats 1600000 in
theorem turnB4 (hdp : dp ≤ 490) (X : (hd.heap_39 w.params).In h₀) (T : Top p loose mean mg mb h₀) (hIO : @LT.lt Nat instLTNat O I) (hv : vs.size ≤ 15) (l0 : 0 ≤ lc) (l1 : lc < 65536) (hp : lc % 16 = q)
    (h : ∀ r' t1 t2 t3 (t4 t5 : Tok) n', 0 ≤ r' → r' < 65536 → r' % 64 = (c.toNat : Int) % 64 → RB w (fun _ _ => False) Q s dp un fr gd h₀ L I r (mB O mz 0 r' t1 t2 t3) [(O, W.listOf ((vs.push (.int (b64c (q * 4 + (c.toNat : Int) / 64)) t4)).push (.int (b64c ((c.toNat : Int) % 64)) t5)) n')]) :
    RB w (fun _ _ => False) Q s dp un fr gd h₀ L I (c :: r) (mB O mz 4 lc tb tl tc) [(O, W.listOf vs n)] := by
  unfold RB at h ⊢
  have hv6 : vs.size ≤ 16 := Nat.le_succ_of_le hv
  revert X; k_fill; intro X
  generalize hR : BytesRest _ _ _ _ _ _ _ _ _ _ _ r = R at h
  refine BytesRest.succ (fun it h1 tk u hit F N => ?_)
  rw [hR]
  clear hR
  dsimp only [b2aB, b2aS, mB] at F N ⊢
  have bb := c.toNat_lt
  k_steps
  unfold StopHere
  rename Fr _ _ _ _ => F2
  rename News _ _ _ _ => N2
  refine append_K F2 N2 (by k_upd) ?_ (Nat.le_trans hv6 size16)
  intro h3 F3 N3
  clear F2 N2
  k_steps
  unfold StopHere
  rename Fr _ _ _ _ => F2
  rename News _ _ _ _ => N2
  refine append_K F2 N2 (by k_upd) ?_ (by rw [Array.size_push]; exact Nat.le_trans (Nat.succ_le_succ hv) size16)
  intro h4 F4 N4
  clear F2 N2
  k_steps
  rename Fr _ _ _ _ => F2
  rename News _ _ _ _ => N2
  refine unrEnd_head F2 N2 (ClsOffN.off (by assumption) (by k_clsL)) ?_
  rename ((_ : Int) * 256 + _) % 65536 = _ => hr
  rename b64c _ = _ => hw; subst hw
  rename b64c _ = _ => hw; subst hw
  rw [b2a_i2 hr (Int.natCast_nonneg _) (byte_lt c) hp, b2a_i3 hr]
  refine dup_name (R := fun m => R m _) ?_
  exact turn_namesB (R := fun m => R m _) (h _ _ _ _ _ _ _ (by assumption) (by assumption) (b2a_r 64 (by decide) hr))
end
variable {A : Around} {Q E : Value → Shared → Prop}
local macro_rules | `(tactic| walk_at "pyIter bytes") => `(tactic| (k_here; refine StopHere.go ?_))
local macro_rules | `(tactic| walk_at "call type:bytes cons nil") => `(tactic| (k_here; refine StopHere.go ?_))
set_option maxHeartbeats 1600000 in
theorem c_b2a {l : List UInt8} {t : Tok} (hl : l.length = 6)
    (hh : A.handled = none) (hdp : A.depth ≤ 490) (X : (hd.heap_39 w.params).In s.heap) (T : Top p loose mean mg mb s.heap)
    (hQ : ∀ t' h' tk, s.heap.StaysIn h' → Q (.bytes (byteArr (b64w (l.map fun c => (c.toNat : Int)))) t') { s with heap := h', toks := tk }) : wpAny (model PySem.Challenge.rw_ku0026_01.row.prog w) A (call (.ref 145) [.bytes l.toArray t] [(Str.ofString "newline", .bool false)]) Q E s := by
  (rename Frag.In _ _ => X'; revert X'; k_fill; intro X')
  obtain ⟨hd, dp, fr, gd, un⟩ := A
  dsimp only at hh hdp
  subst hh
  obtain ⟨o0, o1, o2, o3, o4, o5, rfl⟩ : ∃ a b c d e f, l = [a, b, c, d, e, f] := by
    match l, hl with
    | [a, b, c, d, e, f], _ => exact ⟨a, b, c, d, e, f, rfl⟩
  clear hl
  simp only [List.map, b64w] at hQ
  (refine wpAny_call ?_; refine' enterS ?g12k1 ?g12k2 ?g12k3 ?g12k4 ?g12k5 ?g12k6 ?g12k7 ?g12k8 ?g12k9 ?g12k10 ?g12k11 ?_; (case g12k1 => assumption); (case g12k2 => assumption); (case g12k3 => k_is); (case g12k4 => k_is); (case g12k5 => first | exact room_of (by assumption) (by decide) | (show _ < recursionLimit; simp only [recursionLimit]; omega)); (case g12k6 => first | exact BindsTo.of_eq rfl | exact binds_K (by assumption) rfl (by k_is) rfl rfl rfl); (case g12k7 => exact locs rfl); (case g12k8 => exact rfl); (case g12k9 => exact rfl); (case g12k10 => exact rfl); (case g12k11 => decide); intro _ _ _ _; (try dsimp only); (try k_fold))
  rename Frag.In _ s.heap => X'
  k_steps
  rename Fr _ _ _ _ => F2
  rename News _ _ _ _ => N2
  refine c_buffer rfl (le_up hdp (by decide) : dp + 1 ≤ 500) (X'.keeps F2.keep) (T.keeps F2.keep) ?_
  intro t1 h1 tk1 st1
  have F3 := F2.keeps st1
  have N3 := N2.grown st1
  clear F2 N2
  k_steps
  rename Fr _ _ _ _ => F2
  rename News _ _ _ _ => N2
  refine c_truth rfl (le_up hdp (by decide) : dp + 1 ≤ 500) (X'.keeps F2.keep) (T.keeps F2.keep) ?_
  intro h1 tk1 st1
  have F3 := F2.keeps st1
  have N3 := N2.grown st1
  clear F2 N2
  k_steps
  unfold StopHere
  rename Fr _ _ _ _ => F2
  rename News _ _ _ _ => N2
  with_unfolding_all refine iter_bytesUnr (by rfl) F2 N2 ?_
  clear F2 N2
  intro i9 hI9
  have hIO := hI9 _ (.head _)
  refine lay_nameB (n3 := Str.ofString "b") (by rfl) (by decide) (by decide) (R := fun m => BytesRest _ _ _ _ _ _ _ _ _ _ _ _ m _) ?_
  refine turnB0 hdp X' T hIO (Nat.le_of_ble_eq_true rfl) (by decide) (by decide) (fun _ _ _ _ _ _ _ p0 p1 pm => ?_)
  refine turnB2 hdp X' T hIO (Nat.le_of_ble_eq_true rfl) p0 p1 pm (fun _ _ _ _ _ _ _ p0 p1 pm => ?_)
  refine turnB4 hdp X' T hIO (Nat.le_of_ble_eq_true rfl) p0 p1 pm (fun _ _ _ _ _ _ _ p0 p1 _ => ?_)
  refine turnB0 hdp X' T hIO (Nat.le_of_ble_eq_true rfl) p0 p1 (fun _ _ _ _ _ _ _ p0 p1 pm => ?_)
  refine turnB2 hdp X' T hIO (Nat.le_of_ble_eq_true rfl) p0 p1 pm (fun _ _ _ _ _ _ _ p0 p1 pm => ?_)
  refine turnB4 hdp X' T hIO (Nat.le_of_ble_eq_true rfl) p0 p1 pm (fun _ _ _ _ _ _ _ p0 p1 _ => ?_)
  refine BytesRest.zero (fun h' tk' F' N' => ?_)
  dsimp only [mB, b2aS] at F' N' ⊢
  have q0 : (0 : Int) ≤ o0.toNat := Int.natCast_nonneg _
  have q1 : (0 : Int) ≤ o1.toNat := Int.natCast_nonneg _
  have q2 : (0 : Int) ≤ o2.toNat := Int.natCast_nonneg _
  have q3 : (0 : Int) ≤ o3.toNat := Int.natCast_nonneg _
  have q4 : (0 : Int) ≤ o4.toNat := Int.natCast_nonneg _
  have q5 : (0 : Int) ≤ o5.toNat := Int.natCast_nonneg _
  have k0 := b64c_bd' _ (b2a_0 4 (by decide) q0)
  have k1 := b64c_bd' _ (b2a_1 4 16 16 (by decide) (by decide) (by decide) q0 q1)
  have k2 := b64c_bd' _ (b2a_1 16 4 64 (by decide) (by decide) (by decide) q1 q2)
  have k3 := b64c_bd' _ (b2a_2 64 (by decide) q2)
  have k4 := b64c_bd' _ (b2a_0 4 (by decide) q3)
  have k5 := b64c_bd' _ (b2a_1 4 16 16 (by decide) (by decide) (by decide) q3 q4)
  have k6 := b64c_bd' _ (b2a_1 16 4 64 (by decide) (by decide) (by decide) q4 q5)
  have k7 := b64c_bd' _ (b2a_2 64 (by decide) q5)
  clear q0 q1 q2 q3 q4 q5
  k_steps
  unfold StopHere
  rename Fr _ _ _ _ => F2
  rename News _ _ _ _ => N2
  refine KBa.make_K F2 N2 rfl (by exact isList_news N2 (by k_mem)) (.cons _ _ (.cons _ _ (.cons _ _ (.cons _ _ (.cons _ _ (.cons _ _ (.cons _ _ (.cons _ _ .nil)))))))) (in_eight k0 k1 k2 k3 k4 k5 k6 k7) (Nat.le_of_ble_eq_true rfl) ?_
  intro h3 t3 k3 F3 N3 _
  clear F2 N2
  k_steps
  (try dsimp only); (try k_unfold); (try dsimp only)
  exact hQ _ _ _ (Fr.keep (by assumption))
end

section
variable {w : World} {A : Around} {s : Shared} {Q E : Value → Shared → Prop} {p : Program} {loose : List Str} {mean : ExcName → Option Value} {mg mb : Str → Option Value}
set_option maxHeartbeats 1600000 in
theorem c_b64encode {l : List UInt8} {t : Tok} (hl : l.length = 6)
    (hh : A.handled = none) (hdp : A.depth ≤ 480) (X : (hd.heap_39 w.params).In s.heap) (T : Top p loose mean mg mb s.heap)
    (hQ : ∀ t' h' tk, s.heap.StaysIn h' → Q (.bytes (byteArr (b64w (l.map fun c => (c.toNat : Int)))) t') { s with heap := h', toks := tk }) : wpAny (model PySem.Challenge.rw_ku0026_01.row.prog w) A (call (.ref 153) [.bytes l.toArray t]) Q E s := by
  (rename Frag.In _ _ => X'; revert X'; k_fill; intro X')
  obtain ⟨hd, dp, fr, gd, un⟩ := A
  dsimp only at hh hdp
  subst hh
  (refine wpAny_call ?_; refine' enterS ?g13k1 ?g13k2 ?g13k3 ?g13k4 ?g13k5 ?g13k6 ?g13k7 ?g13k8 ?g13k9 ?g13k10 ?g13k11 ?_; (case g13k1 => assumption); (case g13k2 => assumption); (case g13k3 => k_is); (case g13k4 => k_is); (case g13k5 => first | exact room_of (by assumption) (by decide) | (show _ < recursionLimit; simp only [recursionLimit]; omega)); (case g13k6 => first | exact BindsTo.of_eq rfl | exact binds_K (by assumption) rfl (by k_is) rfl rfl rfl); (case g13k7 => exact locs rfl); (case g13k8 => exact rfl); (case g13k9 => exact rfl); (case g13k10 => exact rfl); (case g13k11 => decide); intro _ _ _ _; (try dsimp only); (try k_fold))
  rename Frag.In _ s.heap => X'
  k_steps
  rename Fr _ _ _ _ => F2
  rename News _ _ _ _ => N2
  refine call_kw (kw' := [(Str.ofString "newline", .bool false)]) (by first | rfl | kernel_rfl) ?_
  refine c_b2a hl rfl (le_up hdp (by decide) : dp + 1 ≤ 490) (X'.keeps F2.keep) (T.keeps F2.keep) ?_
  intro t2 h2 tk2 st2
  have F3 := F2.keeps st2
  have N3 := N2.grown st2
  clear F2 N2
  k_steps
  (try dsimp only); (try k_unfold); (try dsimp only)
  exact hQ _ _ _ (Fr.keep (by assumption))
end

theorem slice_from {l : List Nat} {n : Int} (hl : l.length = 8) (h0 : 0 ≤ n) (h1 : n < 8) : Txt.slice ⟨l.toArray⟩ (some n) none = ⟨(l.drop n.toNat).toArray⟩ := by
  obtain ⟨a, b, c, d, e, f, g, i, rfl⟩ := Codec.len8 hl
  have : n = 0 ∨ n = 1 ∨ n = 2 ∨ n = 3 ∨ n = 4 ∨ n = 5 ∨ n = 6 ∨ n = 7 := by omega
  rcases this with rfl | rfl | rfl | rfl | rfl | rfl | rfl | rfl <;> kernel_rfl
theorem slice_upto {l : List Nat} {n : Int} (hl : l.length = 8) (h0 : 0 ≤ n) (h1 : n < 8) : Txt.slice ⟨l.toArray⟩ none (some n) = ⟨(l.take n.toNat).toArray⟩ := by
  obtain ⟨a, b, c, d, e, f, g, i, rfl⟩ := Codec.len8 hl
  have : n = 0 ∨ n = 1 ∨ n = 2 ∨ n = 3 ∨ n = 4 ∨ n = 5 ∨ n = 6 ∨ n = 7 := by omega
  rcases this with rfl | rfl | rfl | rfl | rfl | rfl | rfl | rfl <;> kernel_rfl
theorem slice_back {l : List Nat} {u : Tok} (hl : l.length = 8) : Txt.sliceBy ⟨l.toArray⟩ none none (-1, u) = ⟨l.reverse.toArray⟩ := by
  obtain ⟨a, b, c, d, e, f, g, i, rfl⟩ := Codec.len8 hl
  kernel_rfl
theorem text_add (a b : List Nat) : (⟨a.toArray⟩ : Str) ++ (⟨b.toArray⟩ : Str) = ⟨(a ++ b).toArray⟩ := by
  show Str.mk (a.toArray ++ b.toArray) = _
  rw [List.append_toArray]
section
variable {prog : Program} {w : World} {A : Around} {E : Value → Shared → Prop} {s : Shared} {value slice : Expr} {l : List Nat} {t u : Tok} {h₀ : Heap} {L : Addr} {m : Str → Option Value} {news : List (Addr × Obj)} {Q : Value → Shared → Prop} {i : Int}
theorem len_le8 (hl : l.length = 8) : (⟨l.toArray⟩ : Str).length ≤ sizeLine := by rw [sizeLine_eq]; show l.toArray.size ≤ _; rw [List.size_toArray, hl]; decide
theorem slice_sn8 (hl : l.length = 8) (h0 : 0 ≤ i) (h1 : i < 8) (hF : Fr h₀ L s.heap m) (hN : News h₀ L s.heap news) (h : ∀ h' t' k, Fr h₀ L h' m → News h₀ L h' news → Q (.str ⟨(l.drop i.toNat).toArray⟩ t') { s with heap := h', toks := k })
    (hs : subscripted slice false (.str ⟨l.toArray⟩ t) (.ref s.heap.objs.size) = operate [.ref s.heap.objs.size, .str ⟨l.toArray⟩ t] (getItem (.str ⟨l.toArray⟩ t) (.ref s.heap.objs.size)))
    (ht : ∀ r, letTemporaryGo value (.str ⟨l.toArray⟩ t) r = pure ()) :
    wpAny (model prog w) A (subscriptTail value slice (.str ⟨l.toArray⟩ t) (.ref s.heap.objs.size)) Q E { s with heap := s.heap.push { cls := .type "slice", data := .fields #[.int i u, .none, .none] } } :=
  slice_strN_sn hF hN (fun h' t' k a b => by rw [slice_from hl h0 h1]; exact h h' t' k a b) hs ht (len_le8 hl)
theorem slice_ns8 (hl : l.length = 8) (h0 : 0 ≤ i) (h1 : i < 8) (hF : Fr h₀ L s.heap m) (hN : News h₀ L s.heap news) (h : ∀ h' t' k, Fr h₀ L h' m → News h₀ L h' news → Q (.str ⟨(l.take i.toNat).toArray⟩ t') { s with heap := h', toks := k })
    (hs : subscripted slice false (.str ⟨l.toArray⟩ t) (.ref s.heap.objs.size) = operate [.ref s.heap.objs.size, .str ⟨l.toArray⟩ t] (getItem (.str ⟨l.toArray⟩ t) (.ref s.heap.objs.size)))
    (ht : ∀ r, letTemporaryGo value (.str ⟨l.toArray⟩ t) r = pure ()) :
    wpAny (model prog w) A (subscriptTail value slice (.str ⟨l.toArray⟩ t) (.ref s.heap.objs.size)) Q E { s with heap := s.heap.push { cls := .type "slice", data := .fields #[.none, .int i u, .none] } } :=
  slice_strN_ns hF hN (fun h' t' k a b => by rw [slice_upto hl h0 h1]; exact h h' t' k a b) hs ht (len_le8 hl)
theorem item8 (hl : l.length = 8) (h0 : 0 ≤ i) (h1 : i < 8) (h : Q (.str ⟨[l.getD i.toNat 0].toArray⟩ s.toks) { s with toks := s.toks + 1 })
    (hs : subscripted slice false (.str ⟨l.toArray⟩ t) (.int i u) = operate [.str ⟨l.toArray⟩ t, .int i u] (getItem (.str ⟨l.toArray⟩ t) (.int i u)))
    (ht : ∀ r, letTemporaryGo value (.str ⟨l.toArray⟩ t) r = pure ()) :
    wpAny (model prog w) A (subscriptTail value slice (.str ⟨l.toArray⟩ t) (.int i u)) Q E s := by
  have e : Txt.item ⟨l.toArray⟩ i = ⟨[l.getD i.toNat 0].toArray⟩ := by
    obtain ⟨a, b, c, d, e, f, g, j, rfl⟩ := Codec.len8 hl
    have : i = 0 ∨ i = 1 ∨ i = 2 ∨ i = 3 ∨ i = 4 ∨ i = 5 ∨ i = 6 ∨ i = 7 := by omega
    rcases this with rfl | rfl | rfl | rfl | rfl | rfl | rfl | rfl <;> kernel_rfl
  have el : ((⟨l.toArray⟩ : Str).length : Int) = 8 := by show ((l.toArray.size : Nat) : Int) = 8; rw [List.size_toArray, hl]; rfl
  exact item_str (fitsSsize_of (N := 9223372036854775808) (by omega) (by omega) (Int.le_refl _)) (by omega) (by omega) (fun _ => by rw [e]; exact h) hs ht
theorem slice_bk8 (hl : l.length = 8) (hF : Fr h₀ L s.heap m) (hN : News h₀ L s.heap news) (h : ∀ h' t' k, Fr h₀ L h' m → News h₀ L h' news → Q (.str ⟨l.reverse.toArray⟩ t') { s with heap := h', toks := k })
    (hs : subscripted slice false (.str ⟨l.toArray⟩ t) (.ref s.heap.objs.size) = operate [.ref s.heap.objs.size, .str ⟨l.toArray⟩ t] (getItem (.str ⟨l.toArray⟩ t) (.ref s.heap.objs.size)))
    (ht : ∀ r, letTemporaryGo value (.str ⟨l.toArray⟩ t) r = pure ()) :
    wpAny (model prog w) A (subscriptTail value slice (.str ⟨l.toArray⟩ t) (.ref s.heap.objs.size)) Q E { s with heap := s.heap.push { cls := .type "slice", data := .fields #[.none, .none, .int (-1) u] } } :=
  slice_strK_nn hF hN (by decide) (fun h' t' k a b => by rw [slice_back hl]; exact h h' t' k a b) hs ht (len_le8 hl)
theorem add_l {a b : List Nat} (hsz : a.length + b.length ≤ 100) (h : ∀ t' k, Q (.str ⟨(a ++ b).toArray⟩ t') { s with toks := k }) : wpAny (model prog w) A (binaryOp .Add (.str ⟨a.toArray⟩ t) (.str ⟨b.toArray⟩ u)) Q E s := by
  refine SBL.add (hsz := ?hsz) ?_
  case hsz => rw [sizeLine_eq]; show a.toArray.size + b.toArray.size ≤ _; simp only [List.size_toArray]; omega
  intro _ _ _
  rw [text_add]
  exact h _ _
end
--{
local macro_rules | `(tactic| walk_at "subscriptTail Name Slice str ref") => `(tactic| ((with_reducible show wpAny _ _ (subscriptTail _ (Expr.Slice (some _) none none _) _ _) _ _ _); (with_reducible rename Fr _ _ _ _ => F'); (with_reducible rename News _ _ _ _ => N'); (refine slice_sn8 (s := ⟨_, _, _, _, _⟩) (by first | assumption | (simp [*]; done) | (simp only [List.length_append, List.length_drop, List.length_take]; omega)) (by omega) (by omega) F' N' ?_ (by with_unfolding_all rfl) (by intro _; with_unfolding_all rfl)); intro _ _ _ _ _))
local macro_rules | `(tactic| walk_at "subscriptTail Name Slice str ref") => `(tactic| ((with_reducible show wpAny _ _ (subscriptTail _ (Expr.Slice none (some _) none _) _ _) _ _ _); (with_reducible rename Fr _ _ _ _ => F'); (with_reducible rename News _ _ _ _ => N'); (refine slice_ns8 (s := ⟨_, _, _, _, _⟩) (by first | assumption | (simp [*]; done) | (simp only [List.length_append, List.length_drop, List.length_take]; omega)) (by omega) (by omega) F' N' ?_ (by with_unfolding_all rfl) (by intro _; with_unfolding_all rfl)); intro _ _ _ _ _))
local macro_rules | `(tactic| walk_at "subscriptTail Name Slice str ref") => `(tactic| ((with_reducible show wpAny _ _ (subscriptTail _ (Expr.Slice none none (some _) _) _ _) _ _ _); (with_reducible rename Fr _ _ _ _ => F'); (with_reducible rename News _ _ _ _ => N'); (refine slice_bk8 (s := ⟨_, _, _, _, _⟩) (by first | assumption | (simp [*]; done) | (simp only [List.length_append, List.length_drop, List.length_take]; omega)) F' N' ?_ (by with_unfolding_all rfl) (by intro _; with_unfolding_all rfl)); intro _ _ _ _ _))
local macro_rules | `(tactic| walk_at "subscriptTail Name Constant str int") => `(tactic| (refine item8 (by first | assumption | (simp only [List.length_append, List.length_drop, List.length_take]; omega)) (by omega) (by omega) ?_ (by with_unfolding_all rfl) (by intro _; with_unfolding_all rfl)))
local macro_rules | `(tactic| walk_at "binaryOp Add str str") => `(tactic| (refine add_l (by simp only [List.length_append, List.length_drop, List.length_take, List.length_cons, List.length_nil]; omega) ?_; intro _ _))
--}

def rotL (l : List Nat) (n : Int) : List Nat := l.drop n.toNat ++ l.take n.toNat
def otherL (l : List Nat) (n k : Int) : List Nat :=
  if k = 0 then rotL l n else if k = 1 then [(rotL l n).getD 1 0] ++ [(rotL l n).getD 0 0] ++ (rotL l n).drop 2 else (rotL l n).reverse
theorem rotL_len {l : List Nat} {n : Int} (h : l.length = 8) : (rotL l n).length = 8 := by unfold rotL; simp only [List.length_append, List.length_drop, List.length_take]; omega
section
variable {w : World} {A : Around} {s : Shared} {Q E : Value → Shared → Prop} {p : Program} {loose : List Str} {mean : ExcName → Option Value} {mg mb : Str → Option Value}
set_option maxHeartbeats 1600000 in
theorem c_law_other {l : List Nat} {t t1 t2 : Tok} {n k : Int} (hl : l.length = 8) (hn0 : 0 ≤ n) (hn : n < 8) (hk0 : 0 ≤ k) (hk : k < 3)
    (hh : A.handled = none) (hdp : A.depth ≤ 480) (X : (hd.heap_39 w.params).In s.heap) (T : Top p loose mean mg mb s.heap)
    (hQ : ∀ t' h' tk, s.heap.StaysIn h' → Q (.str ⟨(otherL l n k).toArray⟩ t') { s with heap := h', toks := tk }) : wpAny (model PySem.Challenge.rw_ku0026_01.row.prog w) A (call (.ref 204) [.str ⟨l.toArray⟩ t, .int n t1, .int k t2]) Q E s := by
  have hk3 : k = 0 ∨ k = 1 ∨ k = 2 := by omega
  (rename Frag.In _ _ => X'; revert X'; k_fill; intro X')
  obtain ⟨hd, dp, fr, gd, un⟩ := A
  dsimp only at hh hdp
  subst hh
  have hR := rotL_len (n := n) hl
  rcases hk3 with rfl | rfl | rfl
  · (refine wpAny_call ?_; refine' enterS ?g14k1 ?g14k2 ?g14k3 ?g14k4 ?g14k5 ?g14k6 ?g14k7 ?g14k8 ?g14k9 ?g14k10 ?g14k11 ?_; (case g14k1 => assumption); (case g14k2 => assumption); (case g14k3 => k_is); (case g14k4 => k_is); (case g14k5 => first | exact room_of (by assumption) (by decide) | (show _ < recursionLimit; simp only [recursionLimit]; omega)); (case g14k6 => first | exact BindsTo.of_eq rfl | exact binds_K (by assumption) rfl (by k_is) rfl rfl rfl); (case g14k7 => exact locs rfl); (case g14k8 => exact rfl); (case g14k9 => exact rfl); (case g14k10 => exact rfl); (case g14k11 => decide); intro _ _ _ _; (try dsimp only); (try k_fold))
    rename Frag.In _ s.heap => X'
    k_steps
    (try dsimp only); (try k_unfold); (try dsimp only)
    refine retS (Q := Q) ?_ (hQ _ _ _ (Fr.keep (by assumption)))
    unfold otherL rotL
    rfl
  · (refine wpAny_call ?_; refine' enterS ?g15k1 ?g15k2 ?g15k3 ?g15k4 ?g15k5 ?g15k6 ?g15k7 ?g15k8 ?g15k9 ?g15k10 ?g15k11 ?_; (case g15k1 => assumption); (case g15k2 => assumption); (case g15k3 => k_is); (case g15k4 => k_is); (case g15k5 => first | exact room_of (by assumption) (by decide) | (show _ < recursionLimit; simp only [recursionLimit]; omega)); (case g15k6 => first | exact BindsTo.of_eq rfl | exact binds_K (by assumption) rfl (by k_is) rfl rfl rfl); (case g15k7 => exact locs rfl); (case g15k8 => exact rfl); (case g15k9 => exact rfl); (case g15k10 => exact rfl); (case g15k11 => decide); intro _ _ _ _; (try dsimp only); (try k_fold))
    rename Frag.In _ s.heap => X'
    k_steps
    (try dsimp only); (try k_unfold); (try dsimp only)
    refine retS (Q := Q) ?_ (hQ _ _ _ (Fr.keep (by assumption)))
    unfold otherL rotL
    rfl
  · (refine wpAny_call ?_; refine' enterS ?g16k1 ?g16k2 ?g16k3 ?g16k4 ?g16k5 ?g16k6 ?g16k7 ?g16k8 ?g16k9 ?g16k10 ?g16k11 ?_; (case g16k1 => assumption); (case g16k2 => assumption); (case g16k3 => k_is); (case g16k4 => k_is); (case g16k5 => first | exact room_of (by assumption) (by decide) | (show _ < recursionLimit; simp only [recursionLimit]; omega)); (case g16k6 => first | exact BindsTo.of_eq rfl | exact binds_K (by assumption) rfl (by k_is) rfl rfl rfl); (case g16k7 => exact locs rfl); (case g16k8 => exact rfl); (case g16k9 => exact rfl); (case g16k10 => exact rfl); (case g16k11 => decide); intro _ _ _ _; (try dsimp only); (try k_fold))
    rename Frag.In _ s.heap => X'
    k_steps
    (try dsimp only); (try k_unfold); (try dsimp only)
    refine retS (Q := Q) ?_ (hQ _ _ _ (Fr.keep (by assumption)))
    unfold otherL rotL
    rfl
end

-- the eight signs that b64encode writes for six octets
def wr8 (ns : List Int) : List Nat := (b64w ns).map Int.toNat
theorem wr8_bytes (ns : List Int) : byteArr (b64w ns) = ((wr8 ns).map (·.toUInt8)).toArray := by
  show ((b64w ns).map fun n => n.toNat.toUInt8).toArray = _
  unfold wr8
  rw [List.map_map]
  rfl
theorem len6 {α : Type} {l : List α} (h : l.length = 6) : ∃ a b c d e f, l = [a, b, c, d, e, f] := by
  match l, h with
  | [a, b, c, d, e, f], _ => exact ⟨a, b, c, d, e, f, rfl⟩
theorem wr8_len {ns : List Int} (h : ns.length = 6) : (wr8 ns).length = 8 := by
  obtain ⟨a, b, c, d, e, f, rfl⟩ := len6 h
  rfl
theorem wr8_ascii {ns : List Int} (h : ns.length = 6) (hr : KBa.In ns) : ∀ c ∈ wr8 ns, c < 128 := by
  obtain ⟨a, b, c, d, e, f, rfl⟩ := len6 h
  simp only [KBa.In, List.mem_cons, List.not_mem_nil, or_false, forall_eq_or_imp, forall_eq] at hr
  obtain ⟨h1, h2, h3, h4, h5, h6⟩ := hr
  unfold wr8 b64w
  simp only [List.map_cons, List.map_nil, List.mem_cons, List.not_mem_nil, or_false, forall_eq_or_imp, forall_eq]
  have k1 := b64c_bd (a / 4) (by omega)
  have k2 := b64c_bd (a % 4 * 16 + b / 16) (by omega)
  have k3 := b64c_bd (b % 16 * 4 + c / 64) (by omega)
  have k4 := b64c_bd (c % 64) (by omega)
  have k5 := b64c_bd (d / 4) (by omega)
  have k6 := b64c_bd (d % 4 * 16 + e / 16) (by omega)
  have k7 := b64c_bd (e % 16 * 4 + f / 64) (by omega)
  have k8 := b64c_bd (f % 64) (by omega)
  refine ⟨?_, ?_, ?_, ?_, ?_, ?_, ?_, ?_⟩ <;> omega
theorem wr8_len' {ns : List Int} (_ : KBa.In ns) (h : ns.length = 6) : (wr8 ns).length = 8 := wr8_len h
theorem wr8_ascii' {ns : List Int} (hr : KBa.In ns) (h : ns.length = 6) : ∀ c ∈ wr8 ns, c < 128 := wr8_ascii h hr
theorem digs_rep0 (n m : Nat) : digs n m 0 = List.replicate m 0 := by
  unfold digs
  rw [List.eq_replicate_iff]
  refine ⟨by rw [List.length_map, List.length_range], fun x hx => ?_⟩
  obtain ⟨i, _, rfl⟩ := List.mem_map.mp hx
  rw [Int.zero_ediv, Int.zero_emod]
theorem digs_pad {m : Nat} {a : Int} (hm : m ≤ 6) (h0 : 0 ≤ a) (h : a < ((2 ^ (8 * m) : Nat) : Int)) : digs 8 m a ++ List.replicate (6 - m) 0 = digs 8 6 a := by
  have e := digs_append 8 m (6 - m) a h0
  rw [Nat.add_sub_cancel' hm, Int.emod_eq_of_lt h0 h, Int.ediv_eq_zero_of_lt h0 h, digs_rep0] at e
  exact e.symm
theorem sub_six {m : Nat} (h : m ≤ 6) : (6 : Int) - (m : Int) = ((6 - m : Nat) : Int) := by omega
theorem digs6r (a : Int) : (digs 8 6 a).reverse = [a / 1099511627776 % 256, a / 4294967296 % 256, a / 16777216 % 256, a / 65536 % 256, a / 256 % 256, a % 256] := by simp [digs, List.range_succ]
section
variable {w : World} {A : Around} {s : Shared} {Q E : Value → Shared → Prop} {p : Program} {loose : List Str} {mean : ExcName → Option Value} {mg mb : Str → Option Value}
theorem c_encode {ns : List Int} {t : Tok} (hl : ns.length = 6) (hr : KBa.In ns)
    (hh : A.handled = none) (hdp : A.depth ≤ 480) (X : (hd.heap_39 w.params).In s.heap) (T : Top p loose mean mg mb s.heap)
    (hQ : ∀ t' h' tk, s.heap.StaysIn h' → Q (.bytes ((wr8 ns).map (·.toUInt8)).toArray t') { s with heap := h', toks := tk }) : wpAny (model PySem.Challenge.rw_ku0026_01.row.prog w) A (call (.ref 153) [.bytes (byteArr ns) t]) Q E s := by
  refine c_b64encode (l := ns.map fun n => n.toNat.toUInt8) (by rw [List.length_map]; exact hl) hh hdp X T ?_
  have e : ((ns.map fun n => n.toNat.toUInt8).map fun c => (c.toNat : Int)) = ns := KBa.ints_make hr
  rw [e, wr8_bytes]
  exact hQ
local macro_rules | `(tactic| walk_at "call builtin:len") => `(tactic| (k_here; refine StopHere.go ?_))
local macro_rules | `(tactic| walk_at "binaryOp Mult ref int") => `(tactic| (k_here; refine StopHere.go ?_))
local macro_rules | `(tactic| walk_at "binaryOp Add ref ref") => `(tactic| (k_here; refine StopHere.go ?_))
local macro_rules | `(tactic| walk_at "subscriptTail Name Slice ref ref") => `(tactic| (k_here; refine StopHere.go ?_))
local macro_rules | `(tactic| walk_at "call type:bytes cons nil") => `(tactic| (k_here; refine StopHere.go ?_))
set_option maxHeartbeats 1600000 in
theorem c_law_writing {G0 : Heap} {a : Int} {t : Tok}
    (X : (hd.heap_39 w.params).In G0) (T : Top p loose mean mg mb G0) (C58 : CodeHd G0 58 54) (st : G0.StaysIn s.heap) (z54 : G0.get? 54 = none) (z61 : G0.get? 61 = none) (S5 : St54 G0 s.heap) (S6 : St61 G0 s.heap)
    (hh : A.handled = none) (hdp : A.depth ≤ 380) (hun : A.units ≤ 4900) (ha0 : 0 ≤ a) (ha : a < ((2 ^ 48 : Nat) : Int))
    (hQ : ∀ t' h' tk, KeepT s.heap h' → St54 G0 h' → St61 G0 h' → Q (.str ⟨(wr8 (digs 8 6 a).reverse).toArray⟩ t') { s with heap := h', toks := tk }) :
    wpAny (model PySem.Challenge.rw_ku0026_01.row.prog w) A (call (.ref 192) [.int a t]) Q E s := by
  (rename Frag.In _ _ => X'; revert X'; k_fill; intro X')
  obtain ⟨hd, dp, fr, gd, un⟩ := A
  dsimp only at hh hdp hun
  subst hh
  (refine wpAny_call ?_; refine' enterT (hid := [54, 61]) ?g17k1 ?g17k2 ?g17k3 ?g17k3b ?g17k4 ?g17k5 ?g17k6 ?g17k7 ?g17k8 ?g17k9 ?g17k10 ?g17k11 ?g17k12 ?_; (case g17k1 => assumption); (case g17k2 => assumption); (case g17k3 => assumption); (case g17k3b => simp [*]); (case g17k4 => k_is); (case g17k5 => k_is); (case g17k6 => first | exact room_of (by assumption) (by decide) | (show _ < recursionLimit; simp only [recursionLimit]; omega)); (case g17k7 => first | exact BindsTo.of_eq rfl | exact binds_K (by assumption) rfl (by k_is) rfl rfl rfl); (case g17k8 => exact locs rfl); (case g17k9 => exact rfl); (case g17k10 => exact rfl); (case g17k11 => exact rfl); (case g17k12 => decide))
  intro g L' h₁ G F' N' hs hL X' T'
  rename Frag.In _ G0 => X0
  have g5 := G.none 54 (by simp)
  have g6 := G.none 61 (by simp)
  obtain ⟨_, e5⟩ := S5.at
  obtain ⟨_, e6⟩ := S6.at
  have l5 : 54 ≠ L' := by rw [hL]; exact Nat.ne_of_lt (Heap.lt_size e5)
  have l6 : 61 ≠ L' := by rw [hL]; exact Nat.ne_of_lt (Heap.lt_size e6)
  obtain ⟨p1, c51, o51, u1, c61, o61, TL, N2⟩ := tl_of F' N' (S5.mono hs) (S6.mono hs) g5 g6 l5 l6
  clear N'
  dsimp only [List.nil_append, tl4] at N2
  k_unmd; k_fold
  k_steps
  rename Fr _ _ _ _ => F2
  rename News _ _ _ _ => N2
  have S52 := TL.st54 F2 N2 (by k_mem) (by k_mem)
  have S62 := TL.st61 F2 N2 (by k_mem) (by k_mem)
  refine c_int2digits (n := 8) X0 T C58 (fun b o e => F2.keep _ _ (G.up _ _ e)) z54 S52 rfl (le_up hdp (by decide) : dp + 1 ≤ 390) (le_up hun (by decide) : un + 3 ≤ 5000) (by decide) (by omega) ha0 (by omega) ?_
  intro l h3 tk3 vs k hk3 S53 hl3 hg3 hi
  obtain ⟨F3, p2, c52, o52, u2, c62, o62, TL3, N3⟩ := tl_step (own := []) F2 N2 (fun b o h1 _ => hk3 b o h1) S53 (S62.but S52 (by decide) hk3) g5 g6 l5 l6 (by simp)
  have N3l := news_new F2 hl3 hg3 N3
  dsimp only [List.nil_append, tl4] at N3l
  clear F2 N2 TL N3 S52 S62
  have hlt : a < ((2 ^ (8 * cnt 8 a) : Nat) : Int) := lt_cnt (by decide) ha0
  have hm6 : cnt 8 a ≤ 6 := by unfold cnt; have : PySem.Builtin.Int.intBits a ≤ 48 := intBits_le_iff.mpr (by omega); omega
  generalize cnt 8 a = m at hi hlt hm6
  k_steps
  unfold StopHere
  rename Fr _ _ _ _ => F4
  rename News _ _ _ _ => N4
  refine len_n (c := m) (isList_news N4 (by k_mem)) (by rw [List.size_toArray, hi.length, digs_length]) (Nat.le_trans hm6 (by decide)) ?_
  k_steps
  unfold StopHere
  rename Fr _ _ _ _ => F4
  rename News _ _ _ _ => N4
  refine mul_one' (c := 6 - m) F4 N4 (News.get N4 (by k_mem)) (sub_six hm6) (Nat.le_trans (Nat.sub_le 6 m) (by decide)) ?_
  intro l4 h4 F5 N5 l1' l2'
  clear F4 N4
  k_steps
  unfold StopHere
  rename Fr _ _ _ _ => F4
  rename News _ _ _ _ => N4
  refine kmk_add_ints F4 N4 (isList_news N4 (by k_mem)) (isList_news N4 (by k_mem)) hi (ints_replicate _ _ _) ?_ (by rw [digs_length, List.length_replicate, Nat.add_sub_cancel' hm6, sizeLine_eq]; decide)
  intro D5 us5 h5 F5 N5 l5' hi5
  rw [digs_pad hm6 ha0 hlt] at hi5
  clear F4 N4 hi
  k_steps
  unfold StopHere
  rename Fr _ _ _ _ => F4
  rename News _ _ _ _ => N4
  refine krv_ints (s := ⟨_, _, _, _, _⟩) F4 N4 (isList_news N4 (by k_mem)) (by kmk_part) hi5 ?_ (by with_unfolding_all rfl) (by kmk_pure) (by rw [List.size_toArray, hi5.length, digs_length, sizeLine_eq]; decide)
  intro D6 us6 h6 F5 N5 l6' hi6 _
  clear F4 N4 hi5
  k_steps
  unfold StopHere
  rename Fr _ _ _ _ => F4
  rename News _ _ _ _ => N4
  refine KBa.make_K F4 N4 rfl (isList_news N4 (by k_mem)) hi6 (fun d h => digs_bound 8 6 a d (List.mem_reverse.mp h)) (by rw [List.length_reverse, digs_length]; decide) ?_
  intro h7 t7 k7 F5 N5 hIn
  clear F4 N4 hi6
  k_steps
  rename Fr _ _ _ _ => F4
  rename News _ _ _ _ => N4
  have h6 : (digs 8 6 a).reverse.length = 6 := by rw [List.length_reverse, digs_length]
  refine c_encode h6 hIn rfl (le_up hdp (by decide) : dp + 1 ≤ 480) (X'.keeps F4.keep) (T'.keeps F4.keep) ?_
  intro t4 h4 tk4 st4
  have hA8 := wr8_ascii' hIn h6
  have hL8 := wr8_len' hIn h6
  have F6 := F4.keeps st4
  have N6 := N4.grown st4
  clear F4 N4
  k_steps
  rename Fr _ _ _ _ => F5
  rename News _ _ _ _ => N5
  (try dsimp only); (try k_unfold); (try dsimp only)
  exact hQ _ _ _ (keepT_of G F5) (TL3.st54 F5 N5 (by k_mem) (by k_mem)) (TL3.st61 F5 N5 (by k_mem) (by k_mem))
end

-- the plain law: eight figures to the base 64, and their signs
def signs (D : List Int) : List Nat := D.map fun d => (b64c d).toNat
def figs (r : Int) : List Int := [r / 4398046511104 % 64, r / 68719476736 % 64, r / 1073741824 % 64, r / 16777216 % 64, r / 262144 % 64, r / 4096 % 64, r / 64 % 64, r % 64]
def val8 : List Int → Int
  | [a, b, c, d, e, f, g, h] => a * 4398046511104 + b * 68719476736 + c * 1073741824 + d * 16777216 + e * 262144 + f * 4096 + g * 64 + h
  | _ => 0
def Dig (D : List Int) : Prop := ∀ d ∈ D, 0 ≤ d ∧ d < 64
def rotI (l : List Int) (n : Nat) : List Int := l.drop n ++ l.take n
def otherI (l : List Int) (n : Nat) (k : Int) : List Int :=
  if k = 0 then rotI l n else if k = 1 then [(rotI l n).getD 1 0] ++ [(rotI l n).getD 0 0] ++ (rotI l n).drop 2 else (rotI l n).reverse
theorem figs_len (r : Int) : (figs r).length = 8 := rfl
theorem figs_eq (r : Int) : figs r = (digs 6 8 r).reverse := by simp [digs, List.range_succ, figs]
theorem digs_undigs (n : Nat) : ∀ l : List Int, (∀ d ∈ l, 0 ≤ d ∧ d < ((2 ^ n : Nat) : Int)) → digs n l.length (undigs n l) = l
  | [], _ => rfl
  | d :: r, h => by
    have hp : (0 : Int) < ((2 ^ n : Nat) : Int) := Int.natCast_pos.mpr (Nat.pow_pos (by decide))
    have hd := h d (.head _)
    have ih := digs_undigs n r fun x hx => h x (.tail _ hx)
    have b2 := undigs_bound n (d :: r) h
    rw [List.length_cons, Nat.add_comm, digs_append n 1 r.length _ b2.1, Nat.mul_one, undigs, Int.add_mul_emod_self_left, Int.emod_eq_of_lt hd.1 hd.2,
      Int.add_mul_ediv_left _ _ (Int.ne_of_gt hp), Int.ediv_eq_zero_of_lt hd.1 hd.2, Int.zero_add, ih, digs_one hd.1 (by rw [Nat.mul_one]; exact hd.2)]
    rfl
theorem len8I {l : List Int} (h : l.length = 8) : ∃ a b c d e f g i, l = [a, b, c, d, e, f, g, i] := by
  match l, h with
  | [a, b, c, d, e, f, g, i], _ => exact ⟨a, b, c, d, e, f, g, i, rfl⟩
theorem val8_eq {D : List Int} (hl : D.length = 8) : val8 D = undigs 6 D.reverse := by
  obtain ⟨a, b, c, d, e, f, g, i, rfl⟩ := len8I hl
  simp only [List.reverse_cons, List.reverse_nil, List.nil_append, List.cons_append, undigs, val8]
  omega
theorem Dig.rev {D : List Int} (hd : Dig D) : ∀ d ∈ D.reverse, 0 ≤ d ∧ d < ((2 ^ 6 : Nat) : Int) := fun d h => hd d (List.mem_reverse.mp h)
theorem figs_dig (r : Int) : Dig (figs r) := fun d h => by
  rw [figs_eq] at h
  exact digs_bound 6 8 r d (List.mem_reverse.mp h)
theorem val8_figs {r : Int} (h0 : 0 ≤ r) (h1 : r < 281474976710656) : val8 (figs r) = r := by
  rw [val8_eq (figs_len r), figs_eq, List.reverse_reverse]
  exact undigs_digs 6 (by decide) 8 r h0 h1
theorem two_div (r : Int) {a b c : Int} (ha : 0 ≤ a) (h : a * b = c) : r / c = r / a / b := by rw [← h, Int.ediv_ediv_of_nonneg ha]
theorem oct1 (x : Int) : x % 256 / 4 = x / 4 % 64 := by omega
theorem oct2 (x : Int) : x / 256 % 256 % 4 * 16 + x % 256 / 16 = x / 16 % 64 := by omega
theorem oct3 (x : Int) : x / 256 % 256 % 16 * 4 + x % 256 / 64 = x / 64 % 64 := by omega
theorem oct4 (x : Int) : x % 256 % 64 = x % 64 := Int.emod_emod_of_dvd x (by decide)
theorem wr8_figs {r : Int} (h0 : 0 ≤ r) (h1 : r < 281474976710656) : wr8 (digs 8 6 r).reverse = signs (figs r) := by
  rw [digs6r]
  unfold wr8 b64w signs figs
  simp only [List.map_cons, List.map_nil]
  have e1 : r / 1099511627776 % 256 / 4 = r / 4398046511104 % 64 := by rw [two_div r (a := 1099511627776) (b := 4) (c := 4398046511104) (by decide) rfl]; exact oct1 _
  have e2 : r / 1099511627776 % 256 % 4 * 16 + r / 4294967296 % 256 / 16 = r / 68719476736 % 64 := by
    rw [two_div r (a := 4294967296) (b := 256) (c := 1099511627776) (by decide) rfl, two_div r (a := 4294967296) (b := 16) (c := 68719476736) (by decide) rfl]; exact oct2 _
  have e3 : r / 4294967296 % 256 % 16 * 4 + r / 16777216 % 256 / 64 = r / 1073741824 % 64 := by
    rw [two_div r (a := 16777216) (b := 256) (c := 4294967296) (by decide) rfl, two_div r (a := 16777216) (b := 64) (c := 1073741824) (by decide) rfl]; exact oct3 _
  have e5 : r / 65536 % 256 / 4 = r / 262144 % 64 := by rw [two_div r (a := 65536) (b := 4) (c := 262144) (by decide) rfl]; exact oct1 _
  have e6 : r / 65536 % 256 % 4 * 16 + r / 256 % 256 / 16 = r / 4096 % 64 := by
    rw [two_div r (a := 256) (b := 256) (c := 65536) (by decide) rfl, two_div r (a := 256) (b := 16) (c := 4096) (by decide) rfl]; exact oct2 _
  rw [e1, e2, e3, oct4, e5, e6, oct3, oct4]
theorem digs_undigs6 {o : List Int} (hl : o.length = 6) (hr : KBa.In o) : (digs 8 6 (undigs 8 o.reverse)).reverse = o ∧ 0 ≤ undigs 8 o.reverse ∧ undigs 8 o.reverse < 281474976710656 := by
  have hb : ∀ d ∈ o.reverse, 0 ≤ d ∧ d < ((2 ^ 8 : Nat) : Int) := fun d h => hr d (List.mem_reverse.mp h)
  have e := digs_undigs 8 o.reverse hb
  have b := undigs_bound 8 o.reverse hb
  rw [List.length_reverse, hl] at e b
  exact ⟨by rw [e, List.reverse_reverse], b⟩
theorem signs_octets {o : List Int} (hl : o.length = 6) (hr : KBa.In o) : wr8 o = signs (figs (undigs 8 o.reverse)) := by
  obtain ⟨h1, h2, h3⟩ := digs_undigs6 hl hr
  rw [← wr8_figs h2 h3, h1]
theorem rotI_len {D : List Int} (hl : D.length = 8) (k : Nat) : (rotI D k).length = 8 := by unfold rotI; simp only [List.length_append, List.length_drop, List.length_take]; omega
theorem rotI_dig {D : List Int} (h : Dig D) (k : Nat) : Dig (rotI D k) := fun d hd => by
  rcases List.mem_append.mp hd with q | q
  · exact h d (List.mem_of_mem_drop q)
  · exact h d (List.mem_of_mem_take q)
theorem rotL_signs {D : List Int} (k : Nat) : rotL (signs D) (k : Int) = signs (rotI D k) := by
  unfold rotL signs rotI
  rw [Int.toNat_natCast, List.map_append, List.map_drop, List.map_take]
theorem Dig.bds {a b c d e f g h : Int} (H : Dig [a, b, c, d, e, f, g, h]) : (0 ≤ a ∧ a < 64) ∧ (0 ≤ b ∧ b < 64) ∧ (0 ≤ c ∧ c < 64) ∧ (0 ≤ d ∧ d < 64) ∧ (0 ≤ e ∧ e < 64) ∧ (0 ≤ f ∧ f < 64) ∧ (0 ≤ g ∧ g < 64) ∧ (0 ≤ h ∧ h < 64) := by
  simpa only [Dig, List.mem_cons, List.not_mem_nil, or_false, forall_eq_or_imp, forall_eq] using H
theorem val8_bd {D : List Int} (hl : D.length = 8) (hd : Dig D) : 0 ≤ val8 D ∧ val8 D ≤ RING := by
  have b := undigs_bound 6 D.reverse hd.rev
  rw [← val8_eq hl, List.length_reverse, hl] at b
  exact ⟨b.1, Int.le_of_lt_add_one b.2⟩
theorem figs_val8 {D : List Int} (hl : D.length = 8) (hd : Dig D) : figs (val8 D) = D := by
  have e := digs_undigs 6 D.reverse hd.rev
  rw [List.length_reverse, hl] at e
  rw [figs_eq, val8_eq hl, e, List.reverse_reverse]
theorem val8_zero {D : List Int} (hl : D.length = 8) (hd : Dig D) (h : val8 D = 0) : D = [0, 0, 0, 0, 0, 0, 0, 0] := by
  rw [← figs_val8 hl hd, h]; decide
theorem val8_ring {D : List Int} (hl : D.length = 8) (hd : Dig D) (h : val8 D = RING) : D = [63, 63, 63, 63, 63, 63, 63, 63] := by
  rw [← figs_val8 hl hd, h]; decide
theorem rot_zero {D : List Int} (hl : D.length = 8) {k : Nat} (x : Int) (h : rotI D k = [x, x, x, x, x, x, x, x]) : D = [x, x, x, x, x, x, x, x] := by
  have hm : ∀ y ∈ D, y = x := fun y hy => by
    have : y ∈ rotI D k := by
      unfold rotI
      rw [← List.take_append_drop k D] at hy
      rcases List.mem_append.mp hy with q | q
      · exact List.mem_append_right _ q
      · exact List.mem_append_left _ q
    rw [h] at this
    simpa using this
  obtain ⟨a, b, c, d, e, f, g, i, rfl⟩ := len8I hl
  simp only [List.mem_cons, List.not_mem_nil, or_false, forall_eq_or_imp, forall_eq] at hm
  obtain ⟨h1, h2, h3, h4, h5, h6, h7, h8⟩ := hm
  subst h1 h2 h3 h4 h5 h6 h7 h8
  rfl
-- first times 64 to the k is the turned number and a multiple of the ring
theorem rot_ring {D : List Int} (hl : D.length = 8) {k : Nat} (hk : k < 8) : ∃ q : Int, val8 D * ((64 ^ k : Nat) : Int) = val8 (rotI D k) + RING * q := by
  refine ⟨undigs 6 (D.take k).reverse, ?_⟩
  have e1 : val8 D = undigs 6 (D.drop k).reverse + ((2 ^ (6 * (8 - k)) : Nat) : Int) * undigs 6 (D.take k).reverse := by
    rw [val8_eq hl]
    conv => lhs; rw [← List.take_append_drop k D]
    rw [List.reverse_append, undigs_append, List.length_reverse, List.length_drop, hl]
  have e2 : val8 (rotI D k) = undigs 6 (D.take k).reverse + ((64 ^ k : Nat) : Int) * undigs 6 (D.drop k).reverse := by
    rw [val8_eq (rotI_len hl k)]
    unfold rotI
    rw [List.reverse_append, undigs_append, List.length_reverse, List.length_take, hl, Nat.min_eq_left (Nat.le_of_lt hk), Nat.pow_mul]
  have e3 : ((2 ^ (6 * (8 - k)) : Nat) : Int) * ((64 ^ k : Nat) : Int) = 281474976710656 := by
    rw [← Int.natCast_mul, show (64 : Nat) = 2 ^ 6 from rfl, ← Nat.pow_mul, ← Nat.pow_add, ← Nat.mul_add, Nat.sub_add_cancel (Nat.le_of_lt hk)]
    rfl
  rw [e1, e2, Int.add_mul, Int.mul_right_comm, e3, Int.mul_comm (undigs 6 (D.drop k).reverse)]
  unfold RING
  omega
def restV (first : Int) (k : Nat) : Int := if first * ((64 ^ k : Nat) : Int) % RING = 0 then first else first * ((64 ^ k : Nat) : Int) % RING
theorem restV_eq {D : List Int} (hl : D.length = 8) (hd : Dig D) {k : Nat} (hk : k < 8) : restV (val8 D) k = val8 (rotI D k) := by
  obtain ⟨q, e⟩ := rot_ring hl hk
  have hb := val8_bd (rotI_len hl k) (rotI_dig hd k)
  unfold restV
  rw [e, Int.add_mul_emod_self_left]
  by_cases h1 : val8 (rotI D k) = RING
  · have h2 := rot_zero hl 63 (val8_ring (rotI_len hl k) (rotI_dig hd k) h1)
    rw [h1, h2]
    decide
  · have h3 : val8 (rotI D k) % RING = val8 (rotI D k) := Int.emod_eq_of_lt hb.1 (by omega)
    rw [h3]
    by_cases h0 : val8 (rotI D k) = 0
    · have h2 := rot_zero hl 0 (val8_zero (rotI_len hl k) (rotI_dig hd k) h0)
      rw [if_pos h0, h0, h2]
      decide
    · rw [if_neg h0]
theorem law_turn {D : List Int} (hl : D.length = 8) (hd : Dig D) {k : Nat} (hk : k < 8) : wr8 (digs 8 6 (restV (val8 D) k)).reverse = rotL (signs D) (k : Int) := by
  rw [restV_eq hl hd hk]
  have hb := val8_bd (rotI_len hl k) (rotI_dig hd k)
  unfold RING at hb
  rw [wr8_figs hb.1 (by omega), figs_val8 (rotI_len hl k) (rotI_dig hd k), rotL_signs]
theorem law_sum {D : List Int} (hl : D.length = 8) (hd : Dig D) : ((List.range 8).map fun k => restV (val8 D) k).sum * 63 = D.sum * RING := by
  have e : ((List.range 8).map fun k => restV (val8 D) k) = (List.range 8).map fun k => val8 (rotI D k) := List.map_congr_left fun k hk => restV_eq hl hd (List.mem_range.mp hk)
  rw [e]
  obtain ⟨a, b, c, d, e, f, g, i, rfl⟩ := len8I hl
  have hr : List.range 8 = [0, 1, 2, 3, 4, 5, 6, 7] := by decide
  rw [hr]
  simp only [List.map_cons, List.map_nil, List.sum_cons, List.sum_nil, rotI, List.drop, List.take, List.cons_append, List.nil_append, List.append_nil, val8, RING]
  omega
theorem digs_zero (n m : Nat) : (digs n m 0).sum = 0 := by
  unfold digs
  generalize List.range m = l
  induction l with
  | nil => rfl
  | cons a l ih => rw [List.map_cons, List.sum_cons, ih, Int.zero_ediv, Int.zero_emod]; rfl
theorem digs6_sum {r : Int} (h0 : 0 ≤ r) (h1 : r < 281474976710656) : (digs 6 (cnt 6 r) r).sum = (figs r).sum := by
  have hlt : r < ((2 ^ (6 * cnt 6 r) : Nat) : Int) := lt_cnt (by decide) h0
  have hm : cnt 6 r ≤ 8 := by unfold cnt; have : PySem.Builtin.Int.intBits r ≤ 48 := intBits_le_iff.mpr (by omega); omega
  generalize cnt 6 r = m at hlt hm
  have e := digs_append 6 m (8 - m) r h0
  rw [Nat.add_sub_cancel' hm, Int.emod_eq_of_lt h0 hlt, Int.ediv_eq_zero_of_lt h0 hlt] at e
  rw [figs_eq, List.sum_reverse, e, List.sum_append, digs_zero, Int.add_zero]
theorem otherI_signs {D : List Int} (hl : D.length = 8) {n : Nat} (hn : n < 8) {k : Int} : otherL (signs D) (n : Int) k = signs (otherI D n k) := by
  unfold otherL otherI
  rw [rotL_signs]
  have hr := rotI_len hl n
  generalize rotI D n = R at hr
  obtain ⟨a, b, c, d, e, f, g, i, rfl⟩ := len8I hr
  (repeat' split) <;> rfl
theorem otherI_len {D : List Int} (hl : D.length = 8) (n : Nat) (k : Int) : (otherI D n k).length = 8 := by
  unfold otherI
  have hr := rotI_len hl n
  generalize rotI D n = R at hr
  obtain ⟨a, b, c, d, e, f, g, i, rfl⟩ := len8I hr
  (repeat' split) <;> rfl
theorem otherI_mem {D : List Int} (hl : D.length = 8) (n : Nat) (k : Int) (x : Int) : x ∈ otherI D n k ↔ x ∈ D := by
  have h1 : x ∈ rotI D n ↔ x ∈ D := by
    unfold rotI
    rw [List.mem_append, or_comm, ← List.mem_append, List.take_append_drop]
  rw [← h1]
  unfold otherI
  have hr := rotI_len hl n
  generalize rotI D n = R at hr
  obtain ⟨a, b, c, d, e, f, g, i, rfl⟩ := len8I hr
  (repeat' split)
  · rfl
  · simp only [List.getD_cons_succ, List.getD_cons_zero, List.drop, List.cons_append, List.nil_append, List.mem_cons, List.not_mem_nil, or_false]
    constructor <;> (intro h; rcases h with h | h | h | h | h | h | h | h <;> simp [h])
  · exact List.mem_reverse
theorem otherI_dig {D : List Int} (hl : D.length = 8) (hd : Dig D) (n : Nat) (k : Int) : Dig (otherI D n k) := fun d h => hd d ((otherI_mem hl n k d).mp h)
theorem b64v_c : ∀ d : Fin 64, b64v (((b64c (d.val : Int)).toNat : Nat) : Int) = (d.val : Int) := by decide +kernel
theorem b64v_sign {d : Int} (h0 : 0 ≤ d) (h1 : d < 64) : b64v (((b64c d).toNat : Nat) : Int) = d := by
  obtain ⟨m, rfl⟩ := Int.eq_ofNat_of_zero_le h0
  exact b64v_c ⟨m, by omega⟩
theorem signs_vals {D : List Int} (hd : Dig D) : (signs D).map (fun c : Nat => b64v (c : Int)) = D := by
  unfold signs
  rw [List.map_map]
  conv => rhs; rw [← List.map_id D]
  exact List.map_congr_left fun d h => b64v_sign (hd d h).1 (hd d h).2
theorem signs_inj {D E : List Int} (hd : Dig D) (he : Dig E) (h : signs D = signs E) : D = E := by
  rw [← signs_vals hd, ← signs_vals he, h]
theorem undigs_unb64 {E : List Int} (hl : E.length = 8) (he : Dig E) : undigs 8 (unb64 E).reverse = val8 E := by
  obtain ⟨a, b, c, d, e, f, g, i, rfl⟩ := len8I hl
  obtain ⟨h1, h2, h3, h4, h5, h6, h7, h8⟩ := he.bds
  simp only [unb64, val8, List.reverse_cons, List.reverse_nil, List.nil_append, List.cons_append, undigs]
  omega
theorem val8_inj {D E : List Int} (hl : D.length = 8) (hd : Dig D) (kl : E.length = 8) (ke : Dig E) (h : val8 D = val8 E) : D = E := by
  rw [← figs_val8 hl hd, ← figs_val8 kl ke, h]
theorem law_turns {D : List Int} (hl : D.length = 8) (hd : Dig D) {n : Nat} (hn : n < 8) {kind : Int} {k : Nat} (hk : k < 8) :
    (val8 D * ((64 ^ k : Nat) : Int) - val8 (otherI D n kind)) % RING = 0 ↔ rotL (signs D) (k : Int) = otherL (signs D) (n : Int) kind := by
  obtain ⟨q, e⟩ := rot_ring hl hk
  have hb := val8_bd (rotI_len hl k) (rotI_dig hd k)
  have kb := val8_bd (otherI_len hl n kind) (otherI_dig hl hd n kind)
  rw [rotL_signs, otherI_signs hl hn, e]
  have e2 : val8 (rotI D k) + RING * q - val8 (otherI D n kind) = (val8 (rotI D k) - val8 (otherI D n kind)) + RING * q := by omega
  rw [e2, Int.add_mul_emod_self_left]
  constructor
  · intro h
    have hc : val8 (rotI D k) = val8 (otherI D n kind) ∨ (val8 (rotI D k) = RING ∧ val8 (otherI D n kind) = 0) ∨ (val8 (rotI D k) = 0 ∧ val8 (otherI D n kind) = RING) := by
      unfold RING at *
      omega
    rcases hc with hc | ⟨h1, h2⟩ | ⟨h1, h2⟩
    · rw [val8_inj (rotI_len hl k) (rotI_dig hd k) (otherI_len hl n kind) (otherI_dig hl hd n kind) hc]
    · have a1 := rot_zero hl 63 (val8_ring (rotI_len hl k) (rotI_dig hd k) h1)
      have a2 := val8_zero (otherI_len hl n kind) (otherI_dig hl hd n kind) h2
      have := (otherI_mem hl n kind 0).mp (by rw [a2]; exact .head _)
      rw [a1] at this
      exact absurd this (by decide)
    · have a1 := rot_zero hl 0 (val8_zero (rotI_len hl k) (rotI_dig hd k) h1)
      have a2 := val8_ring (otherI_len hl n kind) (otherI_dig hl hd n kind) h2
      have := (otherI_mem hl n kind 63).mp (by rw [a2]; exact .head _)
      rw [a1] at this
      exact absurd this (by decide)
  · intro h
    have := signs_inj (rotI_dig hd k) (otherI_dig hl hd n kind) h
    rw [this, Int.sub_self]
    rfl

namespace Codec2
open PySem.Builtin PySem.Builtin.Str
theorem same_int (a b : Int) : Spec.same (PyData.int a) (PyData.int b) = decide (a = b) := by
  first | rfl | (simp [Spec.same]; done) | (unfold Spec.same; simp)
theorem look_found {prog : Program} {w : World} {A : Around} {E : Value → Shared → Prop} {s : Shared} {d : Addr} {c : Nat} {x : Str} {D : List (PyData × PyData)} {Q : Mapped → Shared → Prop}
    (T : TabAt (intKind prog w) PyData.int s.heap d D) (hl : lookup (PyData.int c) D = some (.str x))
    (h : ∀ k, Q (.text x) { s with toks := k }) : wpAny (model prog w) A (tableLookup (.ref d) c) Q E s := by
  unfold tableLookup
  refine wpAny_bind (wpAny_attempt (wpAny_bind (wpAny_mkInt (getItem_tab (k := (c : Int)) same_int ?_ T hl (fun v hf => ?_)))))
  · exact (show ((c : Int) == (c : Int)) = true by simp)
  · obtain ⟨u, rfl⟩ := PyProof.V.Flat.str_inv hf
    show wpAny _ _ (asInt? (.str x u) >>= fun r => _) _ _ _
    refine wpAny_bind (wpAny_of_eq (a := none) (by rfl) ?_)
    show wpAny _ _ (asStr? (.str x u) >>= fun r => _) _ _ _
    refine wpAny_bind (wpAny_of_eq (a := some x) (by rfl) ?_)
    exact wpAny_pure (h _)
theorem isSub_KL : isSubtype (.type "KeyError") (.type "LookupError") = pure true := by rw [isSubtype_type]; kernel_rfl
theorem look_missing {prog : Program} {w : World} {A : Around} {E : Value → Shared → Prop} {s : Shared} {d : Addr} {c : Nat} {D : List (PyData × PyData)} {Q : Mapped → Shared → Prop}
    (T : TabAt (intKind prog w) PyData.int s.heap d D) (hh : A.handled = none) (hl : lookup (PyData.int c) D = none)
    (h : ∀ h' k, s.heap.StaysIn h' → Q .keep { s with heap := h', toks := k }) : wpAny (model prog w) A (tableLookup (.ref d) c) Q E s := by
  unfold tableLookup
  refine wpAny_bind (wpAny_attempt (wpAny_bind (wpAny_mkInt (getItem_tab_missing (k := (c : Int)) same_int ?_ T hh hl (fun h' e hn => ?_)))))
  · exact (show ((c : Int) == (c : Int)) = true by simp)
  · obtain ⟨ob, tt, h1, h2, h3⟩ := hn.there
    show wpAny _ _ (isInstance (.ref e) (.type "LookupError") >>= fun r => _) _ _ _
    refine wpAny_bind (wpAny_isInstance (T := "KeyError") (b := true) ⟨ob, h1, h2⟩ isSub_KL ?_)
    show wpAny _ _ (rule _ >>= fun _ => pure Mapped.keep) _ _ _
    exact wpAny_bind (wpAny_rule (wpAny_pure (h _ _ hn.keeps)))
theorem tr_missing {prog : Program} {w : World} {A : Around} {E : Value → Shared → Prop} {s : Shared} {d : Addr} {c : Nat} {t : Tok} {D : List (PyData × PyData)} {Q : Value → Shared → Prop}
    (T : TabAt (intKind prog w) PyData.int s.heap d D) (hh : A.handled = none) (hc : c < 128) (hl : lookup (PyData.int c) D = none)
    (h : ∀ h' t' k, s.heap.StaysIn h' → Q (.str ⟨#[c]⟩ t') { s with heap := h', toks := k }) : wpAny (model prog w) A (call (.builtin "str.translate") [.str ⟨#[c]⟩ t, .ref d]) Q E s := by
  refine wpAny_call_entry F.slot_str_translate (typeIs_str _ _ _) F.entry_str_translate ?_ (F.args_str_translate_2 _ _)
  show wpAny _ _ (strOneArg "translate" _ >>= fun r => _) _ _ _
  refine wpAny_bind (wpAny_of_eq (a := (.str ⟨#[c]⟩ t, ⟨#[c]⟩, .ref d)) (by rfl) ?_)
  have ht0 : tooLong 0 = false := by decide
  have ht1 : tooLong 1 = false := by decide
  simp [Str.length, hc, ht0]
  refine wpAny_bind (look_missing (A := A.in1) T hh hl fun h' k st => ?_)
  simp [ht1]
  exact wpAny_bind (wpAny_mkStr (wpAny_pure ⟨_, rfl, h _ _ _ st⟩) (by rw [sizeLine_eq]; exact (by decide : 1 ≤ 16777216)))
theorem tr_found {prog : Program} {w : World} {A : Around} {E : Value → Shared → Prop} {s : Shared} {d : Addr} {c : Nat} {t : Tok} {D : List (PyData × PyData)} {Q : Value → Shared → Prop} {a b : Nat}
    (T : TabAt (intKind prog w) PyData.int s.heap d D) (hc : c < 128) (hl : lookup (PyData.int c) D = some (.str ⟨#[a, b]⟩))
    (h : ∀ t' k, Q (.str ⟨#[a, b]⟩ t') { s with toks := k }) : wpAny (model prog w) A (call (.builtin "str.translate") [.str ⟨#[c]⟩ t, .ref d]) Q E s := by
  refine wpAny_call_entry F.slot_str_translate (typeIs_str _ _ _) F.entry_str_translate ?_ (F.args_str_translate_2 _ _)
  show wpAny _ _ (strOneArg "translate" _ >>= fun r => _) _ _ _
  refine wpAny_bind (wpAny_of_eq (a := (.str ⟨#[c]⟩ t, ⟨#[c]⟩, .ref d)) (by rfl) ?_)
  have ht0 : tooLong 0 = false := by decide
  have ht2 : tooLong 2 = false := by decide
  simp [Str.length, hc, ht0]
  refine wpAny_bind (look_found (A := A.in1) T hl fun k => ?_)
  simp [Str.length]
  refine wpAny_bind (wpAny_rule ?_)
  refine wpAny_bind (look_found (A := A.in1) T hl fun k => ?_)
  simp [Str.length, ht2]
  exact wpAny_bind (wpAny_mkStr (wpAny_pure ⟨_, rfl, h _ _⟩) (by rw [sizeLine_eq]; exact (by decide : 2 ≤ 16777216)))
theorem tr_m {M : Model} {A : Around} {E : Value → Shared → Prop} {s : Shared} {t : Tok} {x : PySem.Str} {pl : Sem Bool} {Q : Value × List Value → Shared → Prop} (h : Q (.builtin "str.translate", [.str x t]) s) : wpAny M A (getMethod (.str x t) "translate" pl) Q E s := by
  with_reducible exact getMethod_builtin (typeIs_str _ _ _) F.plainAttrs_str F.slot_str_translate F.type_str_translate Codec.noRef h
end Codec2
def specD : List (Int × PyData) := ([40, 41, 91, 93, 123, 125, 63, 42, 43, 45, 124, 94, 36, 92, 46, 38, 126, 35, 32, 9, 10, 13, 11, 12] : List Nat).map fun i : Nat => ((i : Int), PyData.str ⟨#[92, i]⟩)
theorem spec_none : ∀ c : Fin 128, b64v (c.val : Int) < 64 → ¬ c.val = 43 → (Spec.lookup (PyData.int (c.val : Int)) (specD.map fun p => (PyData.int p.1, p.2))).isNone = true := by decide +kernel
section
variable {w : World} {A : Around} {s : Shared} {Q E : Value → Shared → Prop} {p : Program} {loose : List Str} {mean : ExcName → Option Value} {mg mb : Str → Option Value}
local macro_rules | `(tactic| walk_at "getMethod str") => `(tactic| ((with_reducible show wpAny _ _ (getMethod _ (PySem.Str.ofString "translate") _) _ _ _); refine Codec2.tr_m ?_))
set_option maxHeartbeats 1600000 in
theorem c_escape {c : Nat} {t : Tok} (hc : c < 128) (hb : b64v (c : Int) < 64) (hp : ¬ c = 43)
    (hh : A.handled = none) (hdp : A.depth ≤ 480) (X : (hd.heap_39 w.params).In s.heap) (T : Top p loose mean mg mb s.heap)
    (hQ : ∀ t' h' tk, s.heap.StaysIn h' → Q (.str ⟨#[c]⟩ t') { s with heap := h', toks := tk }) : wpAny (model PySem.Challenge.rw_ku0026_01.row.prog w) A (call (.ref 178) [.str ⟨#[c]⟩ t]) Q E s := by
  (rename Frag.In _ _ => X'; revert X'; k_fill; intro X')
  obtain ⟨hd, dp, fr, gd, un⟩ := A
  dsimp only at hh hdp
  subst hh
  (refine wpAny_call ?_; refine' enterS ?g18k1 ?g18k2 ?g18k3 ?g18k4 ?g18k5 ?g18k6 ?g18k7 ?g18k8 ?g18k9 ?g18k10 ?g18k11 ?_; (case g18k1 => assumption); (case g18k2 => assumption); (case g18k3 => k_is); (case g18k4 => k_is); (case g18k5 => first | exact room_of (by assumption) (by decide) | (show _ < recursionLimit; simp only [recursionLimit]; omega)); (case g18k6 => first | exact BindsTo.of_eq rfl | exact binds_K (by assumption) rfl (by k_is) rfl rfl rfl); (case g18k7 => exact locs rfl); (case g18k8 => exact rfl); (case g18k9 => exact rfl); (case g18k10 => exact rfl); (case g18k11 => decide); intro _ _ _ _; (try dsimp only); (try k_fold))
  rename Frag.In _ s.heap => X'
  k_steps
  rename Fr _ _ _ _ => F2
  have X2 := X'.keeps F2.keep
  have KD := kt_keyed_in X2 (a := 168) (D := specD) (by kernel_rfl)
  refine Codec2.tr_missing (KD _ _) rfl hc (Option.isNone_iff_eq_none.mp (spec_none ⟨c, hc⟩ hb hp)) ?_
  intro h' t' k' st'
  have F3 := F2.keeps st'
  clear F2
  k_steps
  (try dsimp only); (try k_unfold); (try dsimp only)
  exact hQ _ _ _ F3.keep
set_option maxHeartbeats 1600000 in
theorem c_escape_plus {t : Tok}
    (hh : A.handled = none) (hdp : A.depth ≤ 480) (X : (hd.heap_39 w.params).In s.heap) (T : Top p loose mean mg mb s.heap)
    (hQ : ∀ t' h' tk, s.heap.StaysIn h' → Q (.str ⟨#[92, 43]⟩ t') { s with heap := h', toks := tk }) : wpAny (model PySem.Challenge.rw_ku0026_01.row.prog w) A (call (.ref 178) [.str ⟨#[43]⟩ t]) Q E s := by
  (rename Frag.In _ _ => X'; revert X'; k_fill; intro X')
  obtain ⟨hd, dp, fr, gd, un⟩ := A
  dsimp only at hh hdp
  subst hh
  (refine wpAny_call ?_; refine' enterS ?g19k1 ?g19k2 ?g19k3 ?g19k4 ?g19k5 ?g19k6 ?g19k7 ?g19k8 ?g19k9 ?g19k10 ?g19k11 ?_; (case g19k1 => assumption); (case g19k2 => assumption); (case g19k3 => k_is); (case g19k4 => k_is); (case g19k5 => first | exact room_of (by assumption) (by decide) | (show _ < recursionLimit; simp only [recursionLimit]; omega)); (case g19k6 => first | exact BindsTo.of_eq rfl | exact binds_K (by assumption) rfl (by k_is) rfl rfl rfl); (case g19k7 => exact locs rfl); (case g19k8 => exact rfl); (case g19k9 => exact rfl); (case g19k10 => exact rfl); (case g19k11 => decide); intro _ _ _ _; (try dsimp only); (try k_fold))
  rename Frag.In _ s.heap => X'
  k_steps
  rename Fr _ _ _ _ => F2
  have X2 := X'.keeps F2.keep
  have KD := kt_keyed_in X2 (a := 168) (D := specD) (by kernel_rfl)
  refine Codec2.tr_found (a := 92) (b := 43) (KD _ _) (by decide) (by kernel_rfl) ?_
  intro t' k'
  k_steps
  (try dsimp only); (try k_unfold); (try dsimp only)
  exact hQ _ _ _ F2.keep
end

-- the places that a pattern's signs leave: 42 a star, 63 any sign, else the sign itself
def fits (name : List Nat) (c : Nat) (q : Int) : Bool := decide (q < (name.length : Int)) && (c == 63 || name.getD q.toNat 0 == c)
def starFrom (name : List Nat) : List Int → List Int
  | [] => []
  | x :: _ => rangeKs x ((name.length : Int) + 1 - x).toNat
def stepI (name : List Nat) (ps : List Int) (c : Nat) : List Int := if c = 42 then starFrom name ps else (ps.filter (fits name c)).map fun q => q + 1
def takesL (name pt : List Nat) : Bool := (pt.foldl (stepI name) [0]).any fun q => q == (name.length : Int)
def PlOK (n : Nat) (ps : List Int) : Prop := ∀ q ∈ ps, 0 ≤ q ∧ q ≤ (n : Int)
theorem mem_rK {a : Int} {n : Nat} {q : Int} : q ∈ rangeKs a n ↔ a ≤ q ∧ q < a + (n : Int) := by
  unfold rangeKs
  simp only [List.mem_map, List.mem_range]
  constructor
  · rintro ⟨i, hi, rfl⟩; omega
  · rintro ⟨h1, h2⟩; exact ⟨(q - a).toNat, by omega, by omega⟩
theorem star_ok {name : List Nat} {ps : List Int} (h : PlOK name.length ps) : PlOK name.length (starFrom name ps) := by
  cases ps with
  | nil => exact fun _ hq => by cases hq
  | cons x r =>
    intro q hq
    have hx := h x (.head _)
    have := mem_rK.mp hq
    omega
theorem step_ok {name : List Nat} {ps : List Int} (h : PlOK name.length ps) (c : Nat) : PlOK name.length (stepI name ps c) := by
  unfold stepI
  split
  · exact star_ok h
  · intro q hq
    obtain ⟨p, hp, rfl⟩ := List.mem_map.mp hq
    obtain ⟨h1, h2⟩ := List.mem_filter.mp hp
    have := h p h1
    simp only [fits, Bool.and_eq_true, decide_eq_true_eq] at h2
    omega
theorem fold_ok {name : List Nat} : ∀ (pt : List Nat) {ps : List Int}, PlOK name.length ps → PlOK name.length (pt.foldl (stepI name) ps)
  | [], _, h => h
  | c :: r, _, h => fold_ok r (step_ok h c)
theorem step_len {name : List Nat} {ps : List Int} (h : PlOK name.length ps) (c : Nat) (hl : ps.length ≤ name.length + 1) : (stepI name ps c).length ≤ name.length + 1 := by
  unfold stepI
  split
  · cases ps with
    | nil => exact Nat.zero_le _
    | cons x r =>
      have hx := h x (.head _)
      show (rangeKs x _).length ≤ _
      rw [rangeKs_length]
      omega
  · rw [List.length_map]
    exact Nat.le_trans (List.length_filter_le _ _) hl
theorem fold_letters {name : List Nat} : ∀ (l : List Nat) (ps : List Int), (∀ c ∈ l, c ≠ 42 ∧ c ≠ 63) → PlOK name.length ps →
    l.foldl (stepI name) ps = (ps.filter fun q => decide (l <+: name.drop q.toNat)).map fun q => q + (l.length : Int)
  | [], ps, _, _ => by simp [List.filter_eq_self.mpr]
  | c :: l, ps, hc, ok => by
    have h42 := (hc c (.head _)).1
    have h63 := (hc c (.head _)).2
    rw [List.foldl_cons, fold_letters l _ (fun x hx => hc x (.tail _ hx)) (step_ok ok c)]
    unfold stepI
    rw [if_neg h42, List.filter_map, List.map_map, List.filter_filter]
    have e1 : ps.filter (fun a => ((fun q : Int => decide (l <+: name.drop q.toNat)) ∘ fun q => q + 1) a && fits name c a) = ps.filter fun q => decide (c :: l <+: name.drop q.toNat) := by
      apply List.filter_congr
      intro q hq
      have hb := ok q hq
      have e : (q + 1).toNat = q.toNat + 1 := by omega
      simp only [Function.comp_apply, e, fits]
      rw [Bool.eq_iff_iff]
      simp only [Bool.and_eq_true, decide_eq_true_eq, Bool.or_eq_true, beq_iff_eq]
      constructor
      · rintro ⟨h1, h2, h3⟩
        have hlt : q.toNat < name.length := by omega
        rcases h3 with h3 | h3
        · exact absurd h3 h63
        · rw [List.drop_eq_getElem_cons hlt]
          rw [List.getD_eq_getElem?_getD, List.getElem?_eq_getElem hlt, Option.getD_some] at h3
          rw [h3]
          exact (List.prefix_cons_inj _).mpr h1
      · intro h
        have hlt : q.toNat < name.length := by
          have := h.length_le
          rw [List.length_cons, List.length_drop] at this
          omega
        rw [List.drop_eq_getElem_cons hlt] at h
        obtain ⟨h1, h2⟩ := List.cons_prefix_cons.mp h
        refine ⟨h2, by omega, .inr ?_⟩
        rw [List.getD_eq_getElem?_getD, List.getElem?_eq_getElem hlt, Option.getD_some]
        exact h1.symm
    rw [e1]
    apply List.map_congr_left
    intro q _
    simp only [Function.comp_apply, List.length_cons]
    omega
theorem fold_marks {name : List Nat} : ∀ (k : Nat) (q : Int), 0 ≤ q → q + (k : Int) ≤ (name.length : Int) → (List.replicate k 63).foldl (stepI name) [q] = [q + (k : Int)]
  | 0, q, _, _ => by simp
  | k + 1, q, h0, h => by
    rw [List.replicate_succ, List.foldl_cons]
    have e : stepI name [q] 63 = [q + 1] := by
      unfold stepI fits
      rw [if_neg (by decide)]
      have : decide (q < (name.length : Int)) = true := decide_eq_true (by omega)
      simp [this]
    rw [e, fold_marks k (q + 1) (by omega) (by omega)]
    congr 1
    omega
theorem star_any {name : List Nat} {ps : List Int} (ok : PlOK name.length ps) : ((starFrom name ps).any fun q => q == (name.length : Int)) = !ps.isEmpty := by
  cases ps with
  | nil => rfl
  | cons x r =>
    have hx := ok x (.head _)
    show ((rangeKs x _).any _) = true
    rw [List.any_eq_true]
    exact ⟨(name.length : Int), mem_rK.mpr (by omega), by simp⟩
theorem takes_marks {name l : List Nat} {k : Nat} (hk : k ≤ name.length) (hl : ∀ c ∈ l, c ≠ 42 ∧ c ≠ 63) : takesL name (List.replicate k 63 ++ l ++ [42]) = decide (l <+: name.drop k) := by
  unfold takesL
  rw [List.foldl_append, List.foldl_append, fold_marks k 0 (by omega) (by omega), Int.zero_add]
  have ok : PlOK name.length [(k : Int)] := fun q hq => by rw [List.mem_singleton.mp hq]; omega
  show (stepI name _ 42).any _ = _
  unfold stepI
  rw [if_pos rfl]
  have ok2 := fold_ok l ok
  unfold stepI at ok2
  rw [star_any ok2]
  have e := fold_letters l [(k : Int)] hl ok
  unfold stepI at e
  rw [e]
  simp only [List.filter, Int.toNat_natCast]
  by_cases h : l <+: name.drop k <;> simp [h]
theorem takes_star {name l : List Nat} (hl : ∀ c ∈ l, c ≠ 42 ∧ c ≠ 63) : takesL name ([42] ++ l ++ [42]) = true ↔ ∃ q, q ≤ name.length ∧ l <+: name.drop q := by
  unfold takesL
  rw [List.foldl_append, List.foldl_append]
  have e0 : [42].foldl (stepI name) [0] = rangeKs 0 (name.length + 1) := by
    show stepI name [0] 42 = _
    unfold stepI
    rw [if_pos rfl]
    show rangeKs 0 _ = _
    congr 1
  rw [e0]
  have ok : PlOK name.length (rangeKs 0 (name.length + 1)) := fun q hq => by have := mem_rK.mp hq; omega
  show ((stepI name _ 42).any _) = true ↔ _
  unfold stepI
  rw [if_pos rfl]
  have ok2 := fold_ok l ok
  unfold stepI at ok2
  rw [star_any ok2]
  have e := fold_letters l _ hl ok
  unfold stepI at e
  rw [e]
  simp only [Bool.not_eq_true', List.isEmpty_eq_false_iff, ne_eq, List.map_eq_nil_iff, List.filter_eq_nil_iff, decide_eq_true_eq, Classical.not_forall, Classical.not_not]
  constructor
  · rintro ⟨q, hq, h⟩
    have := mem_rK.mp hq
    exact ⟨q.toNat, by omega, h⟩
  · rintro ⟨q, hq, h⟩
    exact ⟨(q : Int), mem_rK.mpr (by omega), by rw [Int.toNat_natCast]; exact h⟩
theorem pre_rot {t l : List Nat} (ht : t.length = 8) (hl : l.length = 8) {k : Nat} (hk : k ≤ 8) : l <+: (t ++ t).drop k ↔ rotL t (k : Int) = l := by
  unfold rotL
  rw [Int.toNat_natCast, List.drop_append_of_le_length (by omega)]
  constructor
  · intro h
    have := List.prefix_iff_eq_take.mp h
    rw [this, hl, List.take_append, List.take_of_length_le (l := t.drop k) (by rw [List.length_drop]; omega), List.length_drop, ht]
    have e : 8 - (8 - k) = k := by omega
    rw [e]
  · intro h
    rw [← h]
    exact (List.prefix_append_right_inj _).mpr (List.take_prefix _ _)
theorem takes_marks8 {t l : List Nat} (ht : t.length = 8) (hl8 : l.length = 8) {k : Nat} (hk : k < 8) (hl : ∀ c ∈ l, c ≠ 42 ∧ c ≠ 63) : takesL (t ++ t) (List.replicate k 63 ++ l ++ [42]) = decide (rotL t (k : Int) = l) := by
  rw [takes_marks (by rw [List.length_append]; omega) hl, decide_eq_decide]
  exact pre_rot ht hl8 (by omega)
theorem takes_star8 {t l : List Nat} (ht : t.length = 8) (hl8 : l.length = 8) (hl : ∀ c ∈ l, c ≠ 42 ∧ c ≠ 63) : takesL (t ++ t) ([42] ++ l ++ [42]) = true ↔ ∃ k : Nat, k < 8 ∧ rotL t (k : Int) = l := by
  rw [takes_star hl]
  constructor
  · rintro ⟨q, hq, h⟩
    have hq8 : q ≤ 8 := by
      have := h.length_le
      rw [List.length_drop, List.length_append] at this
      omega
    have hr := (pre_rot ht hl8 hq8).mp h
    by_cases hq7 : q < 8
    · exact ⟨q, hq7, hr⟩
    · refine ⟨0, by decide, ?_⟩
      have : q = 8 := by omega
      subst this
      rw [← hr]
      unfold rotL
      simp [← ht]
  · rintro ⟨k, hk, h⟩
    exact ⟨k, by rw [List.length_append]; omega, (pre_rot ht hl8 (by omega)).mpr h⟩

namespace BM
def bnd (l : Addr) : Obj := { cls := .type "builtin_function_or_method", data := .fields #[.builtin "list.append", .ref l] }
theorem look_app : typeLookup (.type "list") (PySem.Str.ofString "append") = pure (some (.builtin "list.append")) := slot_list_append.lookup
theorem look_get : typeLookup (.type "method_descriptor") "__get__" = pure (some (.builtin "method_descriptor.__get__")) := by rw [typeLookup_type, builtinLookup_eq_fast]; kernel_rfl
theorem look_set : typeLookup (.type "method_descriptor") "__set__" = pure none := by rw [typeLookup_type, builtinLookup_eq_fast]; kernel_rfl
theorem look_del : typeLookup (.type "method_descriptor") "__delete__" = pure none := by rw [typeLookup_type, builtinLookup_eq_fast]; kernel_rfl
theorem slot_get : Slot "method_descriptor" "__get__" "method_descriptor.__get__" :=
  .of (owner := "method_descriptor") (n := "__get__") (by rw [typeLookup_type, builtinLookup_eq_fast]; kernel_rfl) (by decide +kernel) (by decide +kernel) (by decide +kernel)
    (by first | exact .inl (by decide +kernel) | exact .inr (by decide +kernel)) (by rw [isSubtype_type]; kernel_rfl)
theorem entry_get : entryFor table "method_descriptor.__get__" = some Builtin.«method_descriptor.__get__» := entryFor_of_tree (by kernel_rfl)
theorem args_get (a b c : Value) : argsOk "method_descriptor.__get__" ⟨[a, b, c], []⟩ := by unfold argsOk; kernel_rfl
theorem run_get {M : Model} {A : Around} {E : Value → Shared → Prop} {s : Shared} {l : Addr} {P : Fin → Shared → Prop} (hT : s.TypeIs (.ref l) "list") (h : P (.done (.ret (.ref s.heap.objs.size))) { s with heap := s.heap.push (bnd l) }) :
    wpAny M A (Builtin.«method_descriptor.__get__» ⟨[.builtin "list.append", .ref l, .type "list"], []⟩) P E s := by
  unfold Builtin.«method_descriptor.__get__»
  refine wpAny_bind (wpAny_of_eq (a := (.builtin "list.append", some (.ref l), some (.type "list"))) (by first | rfl | kernel_rfl) ?_)
  show wpAny _ _ (if Manifest.toldItsClass.contains "list.append" = true then _ else (kfb_private% "bindBuiltin") "builtin_function_or_method" (.builtin "list.append") (some (.ref l))) _ _ _
  refine KFB.if_not (by decide +kernel) ?_
  show wpAny _ _ ((kfb_private% "checkInstance") (.builtin "list.append") (.ref l) >>= fun _ => newFields "builtin_function_or_method" [.builtin "list.append", .ref l] >>= fun v => ret v) _ _ _
  refine wpAny_bind ?_
  show wpAny _ _ ((kfb_private% "nameAndClass") (.builtin "list.append") >>= fun r => isInstance (.ref l) r.2 >>= fun b => _) _ _ _
  refine wpAny_bind (wpAny_of_eq (a := (PySem.Str.ofString "append", .type "list")) (by kernel_rfl) ?_)
  refine wpAny_bind (wpAny_isInstance (T := "list") (b := true) hT (by rw [isSubtype_type]; kernel_rfl) ?_)
  refine wpAny_pure ?_
  exact wpAny_bind (wpAny_newObj_type (wpAny_pure h))
theorem entry_ga : entryFor table "list.__getattribute__" = some Builtin.«object.__getattribute__» := am_entry_list_getattribute
theorem run_ga {prog : Program} {w : World} {A : Around} {E : Value → Shared → Prop} {s : Shared} {l : Addr} {u : Tok} {vs : Array Value} {k : Nat} {P : PySem.Fin → Shared → Prop} (hl : s.heap.get? l = some (listOf vs k)) (h : P (.done (.ret (.ref s.heap.objs.size))) { s with heap := s.heap.push (bnd l) }) :
    wpAny (model prog w) A (Builtin.«object.__getattribute__» ⟨[.ref l, .str (PySem.Str.ofString "append") u], []⟩) P E s := by
  have hT : s.TypeIs (.ref l) "list" := ⟨_, hl, rfl⟩
  have f1 := look_app
  have f2 := look_get
  have f3 := look_set
  have f4 := look_del
  have f5 := type_list_append
  unfold Builtin.«object.__getattribute__»
  repeat (any_goals (first | assumption | ((with_reducible show wpAny _ _ (call (Value.builtin "method_descriptor.__get__") _ _) _ _ _); refine wpAny_call_entry slot_get type_list_append entry_get (run_get hT ?_) (args_get _ _ _)) | wp_step))
  exact ⟨_, rfl, wpAny_pure h⟩
theorem getAttr_append {prog : Program} {w : World} {A : Around} {E : Value → Shared → Prop} {s : Shared} {l : Addr} {vs : Array Value} {k : Nat} {Q : Value → Shared → Prop} (hl : s.heap.get? l = some (listOf vs k))
    (h : ∀ tk, Q (.ref s.heap.objs.size) { s with heap := s.heap.push (bnd l), toks := tk }) : wpAny (model prog w) A (getAttr (.ref l) (PySem.Str.ofString "append") true) Q E s := by
  obtain ⟨hp, g, d, tk, os⟩ := s
  have hT : ∀ tk', (⟨hp, g, d, tk', os⟩ : Shared).TypeIs (.ref l) "list" := fun _ => ⟨_, hl, rfl⟩
  have f3 := F.slot_list_getattribute.lookup
  have f4 := F.slot_list_getattribute.bind (.ref l)
  have f5 := am_list_getattr_none
  unfold getAttr getAttrBy
  repeat (any_goals (first | assumption | exact hT _ | ((with_reducible show wpAny _ _ (call (Value.builtin "list.__getattribute__") _ _) _ _ _); refine wpAny_call_entry F.slot_list_getattribute (hT _) entry_ga (run_ga hl ?_) (F.args_list_getattribute_2 _ _)) | wp_step))
  exact ⟨_, rfl, wpAny_pure (h _)⟩
section
variable {prog : Program} {w : World} {M : Model} {A : Around} {E : Value → Shared → Prop} {s : Shared} {h₀ : Heap} {L : Addr} {m : PySem.Str → Option Value} {news : List (Addr × Obj)}
theorem get_app {l : Addr} {vs : Array Value} {k : Nat} {Q : Value → Shared → Prop} (F : Fr h₀ L s.heap m) (N : News h₀ L s.heap news) (hm : (l, listOf vs k) ∈ news)
    (h : ∀ x h' tk, Fr h₀ L h' m → News h₀ L h' ((x, bnd l) :: news) → (∀ p ∈ news, p.1 < x) → Q (.ref x) { s with heap := h', toks := tk }) :
    wpAny (model prog w) A (getAttr (.ref l) (PySem.Str.ofString "append") true) Q E s :=
  getAttr_append (N _ hm).1 fun tk => h _ _ _ (F.push _) (News.push F N _) fun p hp => Heap.lt_size (N p hp).1
theorem callWith_bnd {pos : Pos} {u l : Addr} {first : List Value} {args : List (Bool × Sem Value)} {Q : Value → Shared → Prop} (hplain : args.any (·.1) = false)
    (h : wpAny M A (evalArgs (.ref u) true args []) (fun x s₁ => s₁.heap.get? u = some (bnd l) ∧ wpAny M A (call (.ref u) (first ++ x.pos) x.kw) Q E s₁) E s) : wpAny M A (callWith pos (.ref u) first args []) Q E s := by
  unfold callWith
  refine wpAny_bind (wpAny_holding (wpAny_mono h (fun x s₁ h₁ => wpAny_bind (wpAny_standAt ?_)) fun _ _ x => x))
  obtain ⟨ho, hcall⟩ := h₁
  simp only [hplain, List.any_nil, Bool.or_false]
  refine wpAny_bind (m := keeperOf (.ref u)) ?_
  unfold keeperOf
  refine wpAny_bind (wpAny_load ho ?_)
  simp only [bnd, show (Value.type "builtin_function_or_method" != Value.type "method") = true by decide, show (Value.type "builtin_function_or_method" == Value.type "builtin_function_or_method" || Value.type "builtin_function_or_method" == Value.type "method-wrapper") = true by decide, if_true]
  refine wpAny_pure ?_
  exact wpAny_bind (wpAny_mono hcall (fun r s₂ hr => wpAny_bind (wpAny_holding (wpAny_point (wpAny_pure hr)))) fun _ _ x => x)
theorem sig_is : (Manifest.signature? "list.append").isSome = true := by decide +kernel
def sigA : Manifest.Signature := (Manifest.signature? "list.append").get sig_is
theorem sig_eq : Manifest.signature? "list.append" = some sigA := (Option.some_get _).symm
theorem chk (l : Addr) (x : Value) : Bind.checkArgs "list.append" { sigA with full := s!"{Bind.lastOf "list"}.{Bind.lastOf "list.append"}" } ⟨[.ref l, x], []⟩ = pure () := by kernel_rfl
theorem check_app {l : Addr} {its : Array Value} {n : Nat} {x : Value} {Q : Unit → Shared → Prop} (hl : s.heap.get? l = some (listOf its n)) (h : Q () s) : wpAny M A (checkBoundCall "list.append" ⟨[.ref l, x], []⟩) Q E s := by
  have hk : builtinKind "list.append" = some .method := by decide +kernel
  have hT : s.TypeIs (.ref l) "list" := ⟨_, hl, rfl⟩
  unfold checkBoundCall
  rw [sig_eq, hk]
  dsimp only
  refine KFB.if_not (by decide) ?_
  refine wpAny_bind (wpAny_isInstance (T := "list") (b := false) hT (by rw [isSubtype_type]; kernel_rfl) ?_)
  refine KFB.if_not (by decide +kernel) ?_
  refine wpAny_bind ?_
  simp only [isType, loadHead]
  refine wpAny_bind (wpAny_loadPart hl ?_)
  refine wpAny_pure ?_
  refine KFB.if_not rfl ?_
  refine wpAny_bind (wpAny_typeOf hT ?_)
  dsimp only
  exact wpAny_of_eq (chk l x) h
theorem call_app {u l : Addr} {its : Array Value} {n : Nat} {x : Value} {news' : List (Addr × Obj)} {Q : Value → Shared → Prop} (F : Fr h₀ L s.heap m) (N : News h₀ L s.heap news) (hm : (u, bnd l) ∈ news) (U : Upd l (listOf its n) (listOf (its.push x) (n + 1)) news news')
    (h : ∀ h', Fr h₀ L h' m → News h₀ L h' news' → Q .none { s with heap := h' }) (hsz : its.size ≤ sizeLine := by size_fits) : wpAny (model prog w) A (call (.ref u) [x]) Q E s := by
  obtain ⟨pre, post, rfl, rfl, a, b⟩ := U.split
  have z := N (l, listOf its n) (List.mem_append.mpr (.inr (.head _)))
  have ho := (N _ hm).1
  refine wpAny_call (codeAny_of_tree ?_)
  show wpAny _ A.in1 (callAny (.ref u) ⟨[x], []⟩) _ _ s
  simp only [callAny]
  refine wpAny_bind (wpAny_load ho ?_)
  simp only [bnd, show (Value.type "builtin_function_or_method" == Value.type "method" || Value.type "builtin_function_or_method" == Value.type "builtin_function_or_method" || Value.type "builtin_function_or_method" == Value.type "method-wrapper") = true by decide, if_true]
  refine KFB.if_so (by decide) ?_
  refine wpAny_bind (check_app z.1 ?_)
  refine wpAny_bind (wpAny_pure (wpAny_pure ?_))
  refine ⟨Code.quiet_builtin _ (by decide +kernel), codeAny_builtin entry_list_append ?_⟩
  show wpAny _ _ (updateSeq l (·.push x) >>= fun _ => ret .none) _ _ s
  refine wpAny_bind ?_
  refine wpAny_updateSeq z.1 rfl (wpAny_pure ?_)
  exact h _ (F.change (Heap.SameBut.update ..) z.2.1 z.2.2) (news_set N a b (Heap.SameBut.update ..) (by rw [Heap.get?_update_self _ z.1 (by rw [Obj.mapSeq_push_plain]; rfl), Obj.mapSeq_push_plain]))
theorem and_bnd {h' : Heap} {u l : Addr} {P : Prop} (N : News h₀ L h' news) (hm : (u, bnd l) ∈ news) (h : P) : h'.get? u = some (bnd l) ∧ P := ⟨(N _ hm).1, h⟩
theorem callWith_bnd1 {pos : Pos} {u l : Addr} {first : List Value} {env : Env} {e : Expr} {rest : List Expr} {Q : Value → Shared → Prop} (_N : News h₀ L s.heap news) (_hm : (u, bnd l) ∈ news)
    (h : wpAny M A (spliced (backTo pos (starEach (e :: rest) env))) (fun vs s₁ => s₁.heap.get? u = some (bnd l) ∧ wpAny M A (call (.ref u) (first ++ vs)) Q E s₁) E s)
    (he : starEach (e :: rest) env = (false, eval e env) :: starEach rest env := by rfl) (hplain : (backTo pos (starEach rest env)).any (·.1) = false := by rfl) :
    wpAny M A (callWith pos (.ref u) first (backTo pos (starEach (e :: rest) env)) []) Q E s := by
  rw [he] at h ⊢
  refine callWith_bnd (l := l) (by show (false || (backTo pos (starEach rest env)).any (·.1)) = false; rw [hplain]; rfl) ?_
  exact evalArgs_plain h
end
end BM
--{
local macro_rules | `(tactic| walk_at "getAttr ref") => `(tactic| (k_here; (with_reducible show wpAny _ _ (getAttr (Value.ref _) (PySem.Str.ofString "append") true) _ _ _); k_dflt (refine' BM.get_app ?bmF ?bmN ?bmM ?_; (case bmF => k_asm); (case bmN => k_asm); (case bmM => k_mem); k_whole); intro x' h' tk' F' N' l1; (try k_lt l1); (try k_sweep)))
local macro_rules | `(tactic| walk_at "callWith ref") => `(tactic| (k_here; (with_reducible show wpAny _ _ (callWith _ (Value.ref _) _ (backTo _ (starEach (_ :: _) _)) []) _ _ _); k_dflt (refine' BM.callWith_bnd1 ?bmN ?bmM ?_; (case bmN => k_asm); (case bmM => k_mem); k_whole)))
local macro_rules | `(tactic| walk_at "And") => `(tactic| ((with_reducible show Heap.get? _ _ = some (BM.bnd _) ∧ _); k_dflt (refine BM.and_bnd (by k_asm) (by k_mem) ?_); (try dsimp only [List.nil_append, List.cons_append])))
local macro_rules | `(tactic| walk_at "call ref") => `(tactic| (k_here; (with_reducible show wpAny _ _ (call (Value.ref _) [_]) _ _ _); k_dflt (refine' BM.call_app ?bmF ?bmN ?bmM ?bmU ?_ ?bmZ; (case bmF => k_asm); (case bmN => k_asm); (case bmM => k_mem); (case bmU => k_upd); (case bmZ => size_fits); k_whole); intro h' F' N'; (try k_sweep)))
--}

section TR
section
variable {prog : Program} {w : World} {A : Around} {E : Value → Shared → Prop} {s : Shared} {value slice : Expr} {l : List Nat} {t u : Tok} {Q : Value → Shared → Prop} {i : Int}
theorem len_l (hb : l.length ≤ 1000) (h : ∀ t' k, Q (.int (l.length : Int) t') { s with toks := k }) : wpAny (model prog w) A (call (.builtin "len") [.str ⟨l.toArray⟩ t]) Q E s := by
  have e : ((⟨l.toArray⟩ : Str).length : Int) = (l.length : Int) := by show ((l.toArray.size : Nat) : Int) = _; rw [List.size_toArray]
  exact SBL.len (by rw [e]; omega) (by rw [e]; exact h _ _)
theorem item_l {k : Nat} {c : Nat} (hi : i = (k : Int)) (hk : l[k]? = some c) (hb : l.length ≤ 1000) (h : ∀ t' k', Q (.str ⟨#[c]⟩ t') { s with toks := k' })
    (hs : subscripted slice false (.str ⟨l.toArray⟩ t) (.int i u) = operate [.str ⟨l.toArray⟩ t, .int i u] (getItem (.str ⟨l.toArray⟩ t) (.int i u)))
    (ht : ∀ r, letTemporaryGo value (.str ⟨l.toArray⟩ t) r = pure ()) :
    wpAny (model prog w) A (subscriptTail value slice (.str ⟨l.toArray⟩ t) (.int i u)) Q E s := by
  subst hi
  have hlt : k < l.length := (List.getElem?_eq_some_iff.mp hk).1
  have e : Txt.item ⟨l.toArray⟩ (k : Int) = ⟨#[c]⟩ := item_meets (by omega) (by show l.toArray[_]? = _; simpa using hk)
  have el : ((⟨l.toArray⟩ : Str).length : Int) = (l.length : Int) := by show ((l.toArray.size : Nat) : Int) = _; rw [List.size_toArray]
  exact item_str (fitsSsize_of (N := 9223372036854775808) (by omega) (by omega) (Int.le_refl _)) (by omega) (by omega) (fun _ => by rw [e]; exact h _ _) hs ht
theorem last_l {h₀ : Heap} {L D : Addr} {m : Str → Option Value} {news : List (Addr × Obj)} {vs : List Value} {v : Value} {n : Nat} {u : Tok} (F : Fr h₀ L s.heap m) (N : News h₀ L s.heap news) (hm : (D, listOf (vs ++ [v]).toArray n) ∈ news) (h : Q v s)
    (hs : subscripted slice false (.ref D) (.int (-1) u) = operate [.ref D, .int (-1) u] (getItem (.ref D) (.int (-1) u)) := by with_unfolding_all rfl) (hg : ∀ r, letTemporaryGo value (.ref D) r = pure () := by intro _; with_unfolding_all rfl) :
    wpAny (model prog w) A (subscriptTail value slice (.ref D) (.int (-1) u)) Q E s := by
  have hl := isList_news N hm
  have hsz : ((vs ++ [v]).toArray.size : Int) = (vs.length : Int) + 1 := by simp
  refine subscriptTail_builtin hl.typeIs slot_list_getitem.lookup (wpAny_getItem_list_neg hl (by decide) (by omega) (by decide) ?_ h) hs hg
  have e : (-1 + ((vs ++ [v]).toArray.size : Int)).toNat = vs.length := by omega
  rw [e]
  simp
theorem truthy_snoc {h₀ : Heap} {L D : Addr} {m : Str → Option Value} {news : List (Addr × Obj)} {vs : List Value} {v : Value} {n : Nat} {Q : Bool → Shared → Prop} (F : Fr h₀ L s.heap m) (N : News h₀ L s.heap news) (hm : (D, listOf (vs ++ [v]).toArray n) ∈ news) (hb : vs.length ≤ 1000) (h : ∀ k, Q true { s with toks := k }) :
    wpAny (model prog w) A (truthy (.ref D)) Q E s := by
  refine wpAny_truthy_list (isList_news N hm) (by rw [List.size_toArray, List.length_append, List.length_singleton]; omega) ?_
  have e : (!(vs ++ [v]).toArray.isEmpty) = true := by simp
  rw [e]
  exact h _
theorem truthy_nil {h₀ : Heap} {L D : Addr} {m : Str → Option Value} {news : List (Addr × Obj)} {n : Nat} {Q : Bool → Shared → Prop} (F : Fr h₀ L s.heap m) (N : News h₀ L s.heap news) (hm : (D, listOf ([] : List Value).toArray n) ∈ news) (h : ∀ k, Q false { s with toks := k }) :
    wpAny (model prog w) A (truthy (.ref D)) Q E s := by
  refine wpAny_truthy_list (isList_news N hm) (by simp) ?_
  exact h _
end
def escL (c : Nat) : List Nat := if c = 43 then [92, 43] else [c]
def PartOK (c : Nat) (v : Value) : Prop := if c = 42 then v = .none else if c = 63 then ∃ t, v = .str (Str.ofString ".") t else ∃ t, v = .str ⟨(escL c).toArray⟩ t
inductive PartsAre : List Value → List Nat → Prop
  | nil : PartsAre [] []
  | snoc {vs cs v c} : PartsAre vs cs → PartOK c v → PartsAre (vs ++ [v]) (cs ++ [c])
theorem PartsAre.length {vs : List Value} {cs : List Nat} (h : PartsAre vs cs) : vs.length = cs.length := by
  induction h with
  | nil => rfl
  | snoc _ _ ih => simp [ih]
theorem PartsAre.last {vs : List Value} {cs : List Nat} {c : Nat} (h : PartsAre vs (cs ++ [c])) : ∃ vs₁ v, vs = vs₁ ++ [v] ∧ PartsAre vs₁ cs ∧ PartOK c v := by
  generalize e : cs ++ [c] = ds at h
  cases h with
  | nil => simp at e
  | snoc h1 h2 =>
    obtain ⟨e1, e2⟩ := List.append_inj' e rfl
    subst e1
    cases e2
    exact ⟨_, _, rfl, h1, h2⟩
def Letter (c : Nat) : Prop := c < 128 ∧ b64v (c : Int) < 64
-- a pattern: letters, question marks, and stars that do not stand side by side
def PatOK (pt : List Nat) : Prop := (∀ c ∈ pt, c = 42 ∨ c = 63 ∨ Letter c) ∧ ∀ k, pt[k]? = some 42 → k = 0 ∨ ∃ c, pt[k - 1]? = some c ∧ c ≠ 42
section
variable {prog : Program} {w : World} {A : Around} {E : Value → Shared → Prop} {Q : Flow → Shared → Prop} {s : Shared} {env : Env} {h₀ : Heap} {L : Addr}
def TrIf (b : Bool) (P R : Prop) : Prop := if b = true then P else R
theorem TrIf.yes {b : Bool} {P R : Prop} (hb : b = true) (h : P) : TrIf b P R := by subst hb; exact h
theorem TrIf.no {b : Bool} {P R : Prop} (hb : b = false) (h : R) : TrIf b P R := by subst hb; exact h
abbrev TrSt : Type := Nat × List Value × Nat × Tok × Option Value
def trMap (c : TrSt) (m₀ : Str → Option Value) : Str → Option Value := fun y => if y = Str.ofString "i" then some (.int (c.1 : Int) c.2.2.2.1) else if y = Str.ofString "c" then c.2.2.2.2 else m₀ y
def trLed (x D : Addr) (c : TrSt) : List (Addr × Obj) := [(x, BM.bnd D), (D, listOf c.2.1.toArray c.2.2.1)]
def TrEnd (h₀ : Heap) (L : Addr) (s : Shared) (pt : List Nat) (m₀ : Str → Option Value) (x D : Addr) (k : Nat) (f : Flow) (s₃ : Shared) : Prop :=
  f = .next ∧ ∃ h' tk vs' n' ti' cv', s₃ = { s with heap := h', toks := tk } ∧ k + 1 ≤ pt.length ∧ PartsAre vs' (pt.take (k + 1)) ∧ Fr h₀ L h' (trMap (k + 1, vs', n', ti', cv') m₀) ∧ News h₀ L h' (trLed x D (k + 1, vs', n', ti', cv'))
theorem while_tr {pt : List Nat} {test : Expr} {body : List Stmt} {pos : Pos} {m₀ : Str → Option Value} {x D : Addr} (c₀ : TrSt) (hm : trMap c₀ m₀ = m₀) (hc : c₀.1 = 0) (hv : c₀.2.1 = [])
    (F : Fr h₀ L s.heap m₀) (N : News h₀ L s.heap (trLed x D c₀))
    (turn : ∀ (k : Nat) vs n ti cv h₁ tk₁, k ≤ pt.length → PartsAre vs (pt.take k) → Fr h₀ L h₁ (trMap (k, vs, n, ti, cv) m₀) → News h₀ L h₁ (trLed x D (k, vs, n, ti, cv)) →
      wpAny (model prog w) A (isTrue test env (eval test env)) (fun b s₂ =>
        TrIf b (wpAny (model prog w) A (execs body env) (TrEnd h₀ L s pt m₀ x D k) E s₂) (Q .next s₂)) E { s with heap := h₁, toks := tk₁ })
    (hE : PassesOwn (model prog w) A env E := by passes_own) :
    wpAny (model prog w) A (exec (.While test body [] pos) env) Q E s := by
  refine While_inv2 (n₀ := pt.length) (fun n m nx => ∃ c : TrSt, n = pt.length - c.1 ∧ c.1 ≤ pt.length ∧ PartsAre c.2.1 (pt.take c.1) ∧ m = trMap c m₀ ∧ nx = trLed x D c) F N ⟨c₀, by omega, by omega, by rw [hc, hv, List.take_zero]; exact .nil, hm.symm, rfl⟩ ?_ hE
  rintro n m₁ nx h tk F₁ N₁ ⟨⟨k, vs, c, ti, cv⟩, rfl, hk, hp, rfl, rfl⟩
  refine wpAny_mono (turn k vs c ti cv h tk hk hp F₁ N₁) (fun b s₂ q => ?_) fun _ _ e => e
  cases b with
  | false => exact q
  | true =>
    simp only [TrIf, if_true] at q ⊢
    refine wpAny_mono q (fun f s₃ z => ?_) fun _ _ e => e
    obtain ⟨rfl, h', tk', vs', n', ti', cv', rfl, hk', hp', F', N'⟩ := z
    exact ⟨h', tk', _, _, pt.length - (k + 1), rfl, F', N', by omega, (k + 1, vs', n', ti', cv'), rfl, hk', hp', rfl, rfl⟩
end
theorem trMap_start {m₀ : Str → Option Value} {n : Nat} {ti : Tok} (h1 : m₀ (Str.ofString "i") = some (.int ((0 : Nat) : Int) ti)) (h2 : m₀ (Str.ofString "c") = none) : trMap (0, [], n, ti, none) m₀ = m₀ := by
  funext y
  unfold trMap
  by_cases e1 : y = Str.ofString "i"
  · subst e1; rw [if_pos rfl]; exact h1.symm
  · rw [if_neg e1]
    by_cases e2 : y = Str.ofString "c"
    · subst e2; rw [if_pos rfl]; exact h2.symm
    · rw [if_neg e2]
local macro_rules | `(tactic| walk_at "exec While Compare cons nil") => `(tactic| (k_here; refine StopHere.go ?_))
local macro_rules | `(tactic| walk_at "call builtin:len") => `(tactic| ((with_reducible show wpAny _ _ (call (Value.builtin "len") [Value.str _ _]) _ _ _); refine len_l (by omega) ?_; intro _ _))
theorem tr_end {h₀ h' : Heap} {L x D : Addr} {s : Shared} {pt : List Nat} {m₀ m' : Str → Option Value} {k c tk n : Nat} {vs : List Value} {v : Value} {ti : Tok} {cv : Option Value} {iv : Int}
    (hc : pt[k]? = some c) (hp : PartsAre vs (pt.take k)) (hv : PartOK c v) (F : Fr h₀ L h' m') (N : News h₀ L h' [(x, BM.bnd D), (D, listOf (vs ++ [v]).toArray n)])
    (hi : m' (Str.ofString "i") = some (.int iv ti)) (hiv : iv = (k : Int) + 1) (hcv : m' (Str.ofString "c") = cv) (hr : ∀ y, y ≠ Str.ofString "i" → y ≠ Str.ofString "c" → m' y = m₀ y) :
    TrEnd h₀ L s pt m₀ x D k .next { s with heap := h', toks := tk } := by
  have hlt : k < pt.length := (List.getElem?_eq_some_iff.mp hc).1
  subst hiv
  have em : m' = trMap (k + 1, vs ++ [v], n, ti, cv) m₀ := by
    funext y
    unfold trMap
    by_cases h1 : y = Str.ofString "i"
    · subst h1; rw [if_pos rfl, hi]; rfl
    · rw [if_neg h1]
      by_cases h2 : y = Str.ofString "c"
      · subst h2; rw [if_pos rfl, hcv]
      · rw [if_neg h2]; exact hr y h1 h2
  rw [em] at F
  refine ⟨rfl, h', tk, vs ++ [v], n, ti, cv, rfl, hlt, ?_, F, N⟩
  rw [List.take_add_one, hc]
  exact .snoc hp hv
theorem part_star : PartOK 42 .none := by unfold PartOK; rw [if_pos rfl]
theorem part_mark (t : Tok) : PartOK 63 (.str (Str.ofString ".") t) := by unfold PartOK; rw [if_neg (by decide), if_pos rfl]; exact ⟨t, rfl⟩
theorem part_letter' {c : Nat} {t : Tok} (h1 : c ≠ 42) (h2 : c ≠ 63) (h3 : ¬ c = 43) : PartOK c (.str ⟨#[c]⟩ t) := by unfold PartOK escL; rw [if_neg h1, if_neg h2, if_neg h3]; exact ⟨t, rfl⟩
theorem part_letter {c : Nat} (t : Tok) (h1 : c ≠ 42) (h2 : c ≠ 63) : PartOK c (.str ⟨(escL c).toArray⟩ t) := by unfold PartOK; rw [if_neg h1, if_neg h2]; exact ⟨t, rfl⟩
theorem sign_ne {c d : Nat} {x : Str} (hd : x = ⟨#[d]⟩) (h : c ≠ d) : ((⟨#[c]⟩ : Str) == x) = false := by
  subst hd
  have : (⟨#[c]⟩ : Str) ≠ ⟨#[d]⟩ := fun e => h (by injection e with e; simpa using e)
  simpa using this
theorem eq_no {prog : Program} {w : World} {A : Around} {E : Value → Shared → Prop} {s : Shared} {x y : Str} {t u : Tok} {Q : Value → Shared → Prop} (e : (x == y) = false) (h : Q (.bool false) s) : wpAny (model prog w) A (compareOp .Eq (.str x t) (.str y u)) Q E s :=
  PyProof.Rows.eq_str (by rw [e]; exact h)
local macro_rules | `(tactic| walk_at "compareOp Eq str str") => `(tactic| (refine eq_no (by first | exact sign_ne (d := 42) (by decide) (by assumption) | exact sign_ne (d := 63) (by decide) (by assumption) | exact sign_ne (d := 91) (by decide) (by assumption)) ?_))
local macro_rules | `(tactic| walk_at "truthy ref") => `(tactic| (k_here; k_dflt (first | (refine truthy_snoc (by k_asm) (by k_asm) (by k_mem) (by omega) ?_) | (refine truthy_nil (by k_asm) (by k_asm) (by k_mem) ?_)); intro _))
local macro_rules | `(tactic| walk_at "subscriptTail Name UnaryOp ref int") => `(tactic| (k_here; k_dflt (refine last_l (by k_asm) (by k_asm) (by k_mem) ?_)))
local macro_rules | `(tactic| walk_at "subscriptTail Name Name str int") => `(tactic| (refine item_l (by rfl) (by assumption) (by omega) ?_ (by with_unfolding_all rfl) (by intro _; with_unfolding_all rfl); intro _ _))
section
variable {w : World} {A : Around} {s : Shared} {Q E : Value → Shared → Prop} {p : Program} {loose : List Str} {mean : ExcName → Option Value} {mg mb : Str → Option Value}
theorem plus_is : Str.ofString "+" = ⟨#[43]⟩ := by decide +kernel
theorem c_escape_plus' {t : Tok}
    (hh : A.handled = none) (hdp : A.depth ≤ 480) (X : (hd.heap_39 w.params).In s.heap) (T : Top p loose mean mg mb s.heap)
    (hQ : ∀ t' h' tk, s.heap.StaysIn h' → Q (.str ⟨(escL 43).toArray⟩ t') { s with heap := h', toks := tk }) : wpAny (model PySem.Challenge.rw_ku0026_01.row.prog w) A (call (.ref 178) [.str (Str.ofString "+") t]) Q E s := by
  rw [plus_is]
  exact c_escape_plus hh hdp X T hQ
set_option maxHeartbeats 1600000 in
theorem c_translate {pt : List Nat} {t t' : Tok} (hl : pt.length ≤ 20) (hpt : PatOK pt)
    (hh : A.handled = none) (hdp : A.depth ≤ 470) (X : (hd.heap_39 w.params).In s.heap) (T : Top p loose mean mg mb s.heap)
    (hQ : ∀ D vs n h' tk, s.heap.StaysIn h' → s.heap.get? D = none → h'.get? D = some (listOf vs.toArray n) → PartsAre vs pt → Q (.ref D) { s with heap := h', toks := tk }) : wpAny (model PySem.Challenge.rw_ku0026_01.row.prog w) A (call (.ref 185) [.str ⟨pt.toArray⟩ t, .none, .str (Str.ofString ".") t']) Q E s := by
  (rename Frag.In _ _ => X'; revert X'; k_fill; intro X')
  obtain ⟨hd, dp, fr, gd, un⟩ := A
  dsimp only at hh hdp
  subst hh
  (refine wpAny_call ?_; refine' enterS ?g20k1 ?g20k2 ?g20k3 ?g20k4 ?g20k5 ?g20k6 ?g20k7 ?g20k8 ?g20k9 ?g20k10 ?g20k11 ?_; (case g20k1 => assumption); (case g20k2 => assumption); (case g20k3 => k_is); (case g20k4 => k_is); (case g20k5 => first | exact room_of (by assumption) (by decide) | (show _ < recursionLimit; simp only [recursionLimit]; omega)); (case g20k6 => first | exact BindsTo.of_eq rfl | exact binds_K (by assumption) rfl (by k_is) rfl rfl rfl); (case g20k7 => exact locs rfl); (case g20k8 => exact rfl); (case g20k9 => exact rfl); (case g20k10 => exact rfl); (case g20k11 => decide); intro _ _ _ _; (try dsimp only); (try k_fold))
  rename Frag.In _ s.heap => X'
  k_steps
  unfold StopHere
  rename Fr _ _ _ _ => F2
  rename News _ _ _ _ => N2
  refine while_tr (pt := pt) (0, [], 0, _, none) (trMap_start (if_pos rfl) (by kernel_rfl)) rfl rfl F2 (fun p hp => N2 p (.tail _ hp)) ?_
  clear F2 N2
  intro k vs n ti cv h₁ tk₁ hk hp F3 N3
  dsimp only [trMap, trLed] at F3 N3
  k_steps
  by_cases hlt : k < pt.length
  · refine TrIf.yes (decide_eq_true (by omega)) ?_
    obtain ⟨c, hc⟩ : ∃ c, pt[k]? = some c := ⟨pt[k], List.getElem?_eq_getElem hlt⟩
    have hcl := hpt.1 c (List.mem_of_getElem? hc)
    have hlen := hp.length
    rw [List.length_take] at hlen
    by_cases h42 : c = 42
    · subst h42
      by_cases hk0 : k = 0
      · subst hk0
        obtain rfl : vs = [] := List.length_eq_zero_iff.mp (by omega)
        k_steps
        rename Fr _ _ _ _ => F4
        rename News _ _ _ _ => N4
        (try dsimp only); (try k_unfold); (try dsimp only)
        simp only [List.push_toArray] at N4
        exact tr_end (vs := []) (v := .none) hc hp part_star F4 N4 (if_pos rfl) (by omega) rfl fun y h1 h2 => by simp only [trMap, if_neg h1, if_neg h2]
      · obtain ⟨vs₁, x, tx, rfl⟩ : ∃ vs₁ x t, vs = vs₁ ++ [.str x t] := by
          rcases hpt.2 k hc with h0 | ⟨c', hc', hne⟩
          · exact absurd h0 hk0
          · have e : pt.take k = pt.take (k - 1) ++ [c'] := by
              have e1 : k = k - 1 + 1 := by omega
              rw [e1, List.take_add_one, Nat.add_sub_cancel, hc']
              rfl
            have hp' := hp
            rw [e] at hp'
            obtain ⟨vs₁, v, e2, _, hv⟩ := hp'.last
            unfold PartOK at hv
            rw [if_neg hne] at hv
            split at hv
            · obtain ⟨t, rfl⟩ := hv; exact ⟨_, _, _, e2⟩
            · obtain ⟨t, rfl⟩ := hv; exact ⟨_, _, _, e2⟩
        rw [List.length_append, List.length_singleton] at hlen
        k_steps
        rename Fr _ _ _ _ => F4
        rename News _ _ _ _ => N4
        (try dsimp only); (try k_unfold); (try dsimp only)
        simp only [List.push_toArray] at N4
        exact tr_end (v := .none) hc hp part_star F4 N4 (if_pos rfl) (by omega) rfl fun y h1 h2 => by simp only [trMap, if_neg h1, if_neg h2]
    · by_cases h63 : c = 63
      · subst h63
        k_steps
        rename Fr _ _ _ _ => F4
        rename News _ _ _ _ => N4
        (try dsimp only); (try k_unfold); (try dsimp only)
        simp only [List.push_toArray] at N4
        exact tr_end hc hp (part_mark _) F4 N4 (if_pos rfl) (by omega) rfl fun y h1 h2 => by simp only [trMap, if_neg h1, if_neg h2]
      · have hL : Letter c := by rcases hcl with h | h | h; exact absurd h h42; exact absurd h h63; exact h
        have h91 : c ≠ 91 := by rintro rfl; exact absurd hL.2 (by decide)
        by_cases h43 : c = 43
        · subst h43
          k_steps
          rename Fr _ _ _ _ => F4
          rename News _ _ _ _ => N4
          refine c_escape_plus' rfl (le_up hdp (by decide) : dp + 1 ≤ 480) (X'.keeps F4.keep) (T.keeps F4.keep) ?_
          intro t1 h1 tk1 st1
          have F5 := F4.keeps st1
          have N5 := N4.grown st1
          clear F4 N4
          k_steps
          rename Fr _ _ _ _ => F4
          rename News _ _ _ _ => N4
          (try dsimp only); (try k_unfold); (try dsimp only)
          simp only [List.push_toArray] at N4
          exact tr_end hc hp (part_letter _ h42 h63) F4 N4 (if_pos rfl) (by omega) rfl fun y h1 h2 => by simp only [trMap, if_neg h1, if_neg h2]
        · k_steps
          rename Fr _ _ _ _ => F4
          rename News _ _ _ _ => N4
          refine c_escape hL.1 hL.2 h43 rfl (le_up hdp (by decide) : dp + 1 ≤ 480) (X'.keeps F4.keep) (T.keeps F4.keep) ?_
          intro t1 h1 tk1 st1
          have F5 := F4.keeps st1
          have N5 := N4.grown st1
          clear F4 N4
          k_steps
          rename Fr _ _ _ _ => F4
          rename News _ _ _ _ => N4
          (try dsimp only); (try k_unfold); (try dsimp only)
          simp only [List.push_toArray] at N4
          exact tr_end hc hp (part_letter' h42 h63 h43) F4 N4 (if_pos rfl) (by omega) rfl fun y h1 h2 => by simp only [trMap, if_neg h1, if_neg h2]
  · refine TrIf.no (decide_eq_false (by omega)) ?_
    k_steps
    (try dsimp only); (try k_unfold); (try dsimp only)
    rename Fr _ _ _ _ => F4
    rename News _ _ _ _ => N4
    refine hQ _ vs _ _ _ F4.keep (N4 (_, listOf vs.toArray n) (by k_mem)).2.2 (N4 (_, listOf vs.toArray n) (by k_mem)).1 ?_
    rw [List.take_of_length_le (by omega)] at hp
    exact hp
end
end TR

section TK
-- a for loop over a list of the base, its name a cell
def FcEnd (h₀ : Heap) (L I : Addr) (it : Obj) (J : (Str → Option Value) → List (Addr × Obj) → Prop) (s : Shared) (f : Flow) (s₂ : Shared) : Prop :=
  f = .next ∧ ∃ h' tk' m' news', s₂ = { s with heap := h', toks := tk' } ∧ Fr h₀ L h' m' ∧ News h₀ L h' ((I, it) :: news') ∧ (∀ p ∈ news', p.1 ≠ I) ∧ J m' news'
section
variable {prog : Program} {w : World} {A : Around} {E : Value → Shared → Prop} {Q : Flow → Shared → Prop} {s : Shared} {env : Env} {h₀ : Heap}
theorem for_cell {x : Str} {px : Pos} {body : List Stmt} {D : Addr} {vs : List Value} {m₀ : Str → Option Value} {news₀ : List (Addr × Obj)} (J : Nat → (Str → Option Value) → List (Addr × Obj) → Prop)
    (hh : A.handled = none) (hl : h₀.IsList D vs.toArray) (F : Fr h₀ env.locals s.heap m₀) (N : News h₀ env.locals s.heap news₀) (hj : J 0 m₀ news₀)
    (step : ∀ (I : Addr) i v h tk m₁ news₁ it, (∀ p ∈ news₀, p.1 < I) → vs[i]? = some v → J i m₁ news₁ → (∀ p ∈ news₁, p.1 ≠ I) → it.cls = .type "list_iterator" → Fr h₀ env.locals h m₁ → News h₀ env.locals h ((I, it) :: news₁) →
      wpAny (model prog w) A (storeName env x v) (fun _ s₁ => wpAny (model prog w) A (execs body env) (FcEnd h₀ env.locals I it (J (i + 1)) s) E s₁) E { s with heap := h, toks := tk })
    (done : ∀ h tk m₁ news₁, J vs.length m₁ news₁ → Fr h₀ env.locals h m₁ → News h₀ env.locals h news₁ → Q .next { s with heap := h, toks := tk })
    (hE : PassesOwn (model prog w) A env E := by passes_own) :
    wpAny (model prog w) A (pyIter (.ref D)) (fun it s₂ => codeAny (model prog w) A (.forLoop (.Name x px) it body [] env) (fun r s' => match r with | .ok f => Q f s' | .error e => cameBackBy (model prog w) A env E e s') s₂) E s := by
  have hls : s.heap.IsList D vs.toArray := hl.at fun o e => F.keep D o e
  obtain ⟨ol, hol, _⟩ := id hl
  have hlt : D < h₀.objs.size := Heap.lt_size hol
  have hne : D ≠ s.heap.objs.size := Nat.ne_of_lt (Nat.lt_trans (Nat.lt_of_lt_of_le hlt F.above) F.ns.lt)
  refine wpAny_pyIter_list hls ?_
  have W := Walks.list (prog := prog) (w := w) hh s.heap.objs.size D hne vs.toArray
  have hlen : vs.toArray.size = vs.length := by simp
  rw [hlen] at W
  generalize hI : s.heap.objs.size = I at W hne
  have hIL : env.locals ≠ I := by rw [← hI]; exact Nat.ne_of_lt F.ns.lt
  have hI₀ : h₀.get? I = none := by rw [← hI]; exact next_is_new F
  have hnI : ∀ p ∈ news₀, p.1 < I := fun p hp => by rw [← hI]; exact Heap.lt_size (N p hp).1
  have hDI : D ≠ I := hne
  refine codeAny_forLoop
    (fun k s' => ∃ h' tk m' news' i, s' = { s with heap := h', toks := tk } ∧ (h'.IsListIter I D i ∧ h'.IsList D vs.toArray) ∧ Fr h₀ env.locals h' m' ∧ News h₀ env.locals h' news' ∧ (∀ p ∈ news', p.1 ≠ I) ∧ J i m' news' ∧ i ≤ vs.length ∧ k = vs.length + 1 - i) ?_ (vs.length + 1)
    ⟨_, s.toks, m₀, news₀, 0, rfl, ⟨by rw [← hI]; exact ⟨_, Heap.get?_push_size _ rfl, rfl, rfl⟩, hls.at fun o e => Heap.get?_push_of_some _ e⟩, F.push _, fun p hp => ⟨Heap.get?_push_of_some _ (N p hp).1, (N p hp).2⟩, fun p hp => Nat.ne_of_lt (hnI p hp), hj, Nat.zero_le _, rfl⟩
  rintro k s' ⟨h', tk, m', news', i, rfl, hst', F', N', hnw', hJ, hi, rfl⟩
  have next : ∀ h₁ : Heap, (∀ b o, b ∉ [I] → h'.get? b = some o → h₁.get? b = some o) → Fr h₀ env.locals h₁ m' ∧ News h₀ env.locals h₁ news' := fun h₁ hk₁ =>
    ⟨⟨F'.ns.at' fun o e => hk₁ _ o (by simpa using hIL) e, fun b o e => hk₁ b o (by
      intro hb
      rw [List.mem_singleton.mp hb, hI₀] at e
      cases e) (F'.keep b o e), F'.above⟩, fun p hp => ⟨hk₁ _ _ (by simpa using hnw' p hp) (N' p hp).1, (N' p hp).2⟩⟩
  by_cases hlt : i < vs.length
  · refine W.item i _ _ _ hlt hst' fun v h₁ tk₁ hP hst₁ hk₁ => ?_
    obtain ⟨F₁, N₁⟩ := next h₁ hk₁
    obtain ⟨it, hit, hic, hid⟩ := hst₁.1
    have N₂ : News h₀ env.locals h₁ ((I, it) :: news') := fun p hp => by
      rcases List.mem_cons.mp hp with rfl | hp
      · exact ⟨hit, Ne.symm hIL, hI₀⟩
      · exact N₁ p hp
    refine wpAny_assign_Name (wpAny_passesOwn hE ?_)
    refine wpAny_mono (step I i v h₁ tk₁ m' news' it hnI (by simpa using hP) hJ hnw' hic F₁ N₂) (fun _ s₂ q => wpAny_passesOwn hE (wpAny_mono q (fun f s₃ h₃ => ?_) fun _ _ e => e)) fun _ _ e => e
    obtain ⟨rfl, h₃', tk₃, m₂, news₂, rfl, F₃, N₃, ha₃, hJ₃⟩ := h₃
    refine ⟨vs.length + 1 - (i + 1), by omega, h₃', tk₃, m₂, news₂, i + 1, rfl, ⟨⟨it, (N₃ _ (.head _)).1, hic, hid⟩, hl.at fun o e => F₃.keep _ _ e⟩, F₃, fun p hp => N₃ p (.tail _ hp), ha₃, hJ₃, hlt, rfl⟩
  · have hin : i = vs.length := by omega
    subst hin
    refine W.done _ _ _ hst' fun h₁ tk₁ hk₁ => wpAny_execs_nil ?_
    obtain ⟨F₁, N₁⟩ := next h₁ hk₁
    exact done h₁ tk₁ m' news' hJ F₁ N₁
end
local macro_rules | `(tactic| walk_at "pyIter ref") => `(tactic| (k_here; refine StopHere.go ?_))
theorem PartsAre.get {vs : List Value} {cs : List Nat} (h : PartsAre vs cs) : ∀ (i : Nat) (v : Value), vs[i]? = some v → ∃ c, cs[i]? = some c ∧ PartOK c v := by
  induction h with
  | nil => intro i v e; simp at e
  | @snoc vs cs v c h1 h2 ih =>
    intro i x e
    have hl := h1.length
    by_cases hi : i < vs.length
    · rw [List.getElem?_append_left hi] at e
      obtain ⟨d, e1, e2⟩ := ih i x e
      exact ⟨d, by rw [List.getElem?_append_left (by omega)]; exact e1, e2⟩
    · rw [List.getElem?_append_right (by omega)] at e
      have hi0 : i - vs.length = 0 := by
        have := (List.getElem?_eq_some_iff.mp e).1
        simp at this
        omega
      rw [hi0] at e
      simp at e
      subst e
      exact ⟨c, by rw [List.getElem?_append_right (by omega), show i - cs.length = 0 by omega]; rfl, h2⟩
theorem fold_len {name : List Nat} : ∀ (pt : List Nat) {ps : List Int}, PlOK name.length ps → ps.length ≤ name.length + 1 → (pt.foldl (stepI name) ps).length ≤ name.length + 1
  | [], _, _, h => h
  | c :: r, _, ok, h => fold_len r (step_ok ok c) (step_len ok c h)
def plAt (nm pt : List Nat) (i : Nat) : List Int := (pt.take i).foldl (stepI nm) [0]
theorem pl_ok (nm pt : List Nat) (i : Nat) : PlOK nm.length (plAt nm pt i) := fold_ok _ fun q hq => by rw [List.mem_singleton.mp hq]; omega
theorem pl_len (nm pt : List Nat) (i : Nat) : (plAt nm pt i).length ≤ nm.length + 1 := fold_len _ (fun q hq => by rw [List.mem_singleton.mp hq]; omega) (by simp)
theorem pl_succ {nm pt : List Nat} {i c : Nat} (h : pt[i]? = some c) : plAt nm pt (i + 1) = stepI nm (plAt nm pt i) c := by
  unfold plAt
  rw [List.take_add_one, h]
  simp
def tkMap (P : Addr) (m₀ : Str → Option Value) : Str → Option Value := fun y => if y = Str.ofString "places" then some (.ref P) else m₀ y
theorem tkMap_self {P : Addr} {m₀ : Str → Option Value} (h : m₀ (Str.ofString "places") = some (.ref P)) : tkMap P m₀ = m₀ := by
  funext y
  unfold tkMap
  by_cases e : y = Str.ofString "places"
  · subst e; rw [if_pos rfl]; exact h.symm
  · rw [if_neg e]
theorem tk_nil {vals : List Value} {ps : List Int} (hi : IntsAre vals ps) (h : ¬ 0 < ps.length) : ps = [] := List.eq_nil_of_length_eq_zero (by omega)
def TkJ (nm pt : List Nat) (c1 c2 : Addr) (o2 : Obj) (m₀ : Str → Option Value) (i : Nat) (m : Str → Option Value) (news : List (Addr × Obj)) : Prop :=
  ∃ P vals e oc cv, IntsAre vals (plAt nm pt i) ∧ m = tkMap P m₀ ∧ news = [(P, listOf vals.toArray e), (c1, oc), (c2, o2)] ∧ oc.data = .cell cv ∧ @Ne Nat c1 P ∧ @Ne Nat c2 P
theorem tk_end {h₀ h' : Heap} {L I c1 c2 P : Addr} {it o2 oc : Obj} {s : Shared} {nm pt : List Nat} {m₀ m' : Str → Option Value} {i e tk : Nat} {vals : List Value} {ps : List Int} {cv : Option Value} {news : List (Addr × Obj)}
    (hi : IntsAre vals ps) (hs : plAt nm pt (i + 1) = ps) (F : Fr h₀ L h' m') (N : News h₀ L h' news) (hI : (I, it) ∈ news) (hP : (P, listOf vals.toArray e) ∈ news) (h1 : (c1, oc) ∈ news) (h2 : (c2, o2) ∈ news)
    (hoc : oc.data = .cell cv) (hm : m' = tkMap P m₀) (p1 : @Ne Nat c1 P) (p2 : @Ne Nat c2 P) (n1 : @Ne Nat P I) (n2 : @Ne Nat c1 I) (n3 : @Ne Nat c2 I) :
    FcEnd h₀ L I it (TkJ nm pt c1 c2 o2 m₀ (i + 1)) s .next { s with heap := h', toks := tk } := by
  refine ⟨rfl, h', tk, m', [(P, listOf vals.toArray e), (c1, oc), (c2, o2)], rfl, F, fun p hp => ?_, fun p hp => ?_, P, vals, e, oc, cv, hs ▸ hi, hm, rfl, hoc, p1, p2⟩
  · simp only [List.mem_cons, List.not_mem_nil, or_false] at hp
    rcases hp with rfl | rfl | rfl | rfl
    · exact N _ hI
    · exact N _ hP
    · exact N _ h1
    · exact N _ h2
  · simp only [List.mem_cons, List.not_mem_nil, or_false] at hp
    rcases hp with rfl | rfl | rfl
    · exact n1
    · exact n2
    · exact n3
theorem step_star {nm : List Nat} {ps : List Int} (h : 0 < ps.length) : stepI nm ps 42 = rangeKs (ps.getD (Int.toNat 0) 0) ((nm.length : Int) + 1 - ps.getD (Int.toNat 0) 0).toNat := by
  cases ps with
  | nil => exact absurd h (by decide)
  | cons x r => rfl
def partT (c : Nat) : Str := if c = 63 then Str.ofString "." else ⟨(escL c).toArray⟩
theorem part_text {c : Nat} {v : Value} (h42 : ¬ c = 42) (h : PartOK c v) : ∃ x tx, v = .str x tx ∧ x = partT c := by
  unfold PartOK at h
  rw [if_neg h42] at h
  unfold partT
  split at h
  · obtain ⟨t, rfl⟩ := h; exact ⟨_, t, rfl, by rw [if_pos (by assumption)]⟩
  · obtain ⟨t, rfl⟩ := h; exact ⟨_, t, rfl, by rw [if_neg (by assumption)]⟩
theorem item_of {nm : List Nat} {q : Int} {d : Nat} (h0 : 0 ≤ q) (hd : nm[q.toNat]? = some d) : Txt.item ⟨nm.toArray⟩ q = ⟨#[d]⟩ := item_meets h0 (by show nm.toArray[_]? = _; simpa using hd)
theorem one_inj {a b : Nat} (h : (⟨#[a]⟩ : Str) = ⟨#[b]⟩) : a = b := by injection h with h; simpa using h
theorem dot_is : Str.ofString "." = ⟨#[46]⟩ := by decide +kernel
theorem bplus_is : Str.ofString "\\+" = ⟨#[92, 43]⟩ := by decide +kernel
theorem one_two {a b c : Nat} : (⟨#[a]⟩ : Str) ≠ ⟨#[b, c]⟩ := fun h => by injection h with h; simp at h
theorem let_dot {c : Nat} (h : Letter c) : c ≠ 46 := by rintro rfl; exact absurd h.2 (by decide)
theorem let_63 {c : Nat} (h : Letter c) : c ≠ 63 := by rintro rfl; exact absurd h.2 (by decide)
theorem esc_eq {c d : Nat} : ((⟨(escL d).toArray⟩ : Str) == ⟨(escL c).toArray⟩) = (d == c) := by
  rw [Bool.eq_iff_iff, beq_iff_eq, beq_iff_eq]
  constructor
  · intro h
    unfold escL at h
    split at h <;> split at h
    · omega
    · exact absurd h.symm one_two
    · exact absurd h one_two
    · exact one_inj h
  · rintro rfl; rfl
theorem any_part {c d : Nat} {x : Str} (hcl : c = 63 ∨ Letter c) (hx : x = partT c) : ([Str.ofString ".", ⟨(escL d).toArray⟩].any fun y => y == x) = (c == 63 || d == c) := by
  subst hx
  unfold partT
  simp only [List.any_cons, List.any_nil, Bool.or_false]
  rcases hcl with rfl | hL
  · rw [if_pos rfl]
    simp
  · rw [if_neg (let_63 hL), esc_eq, dot_is]
    have h1 : ((⟨#[46]⟩ : Str) == ⟨(escL c).toArray⟩) = false := by
      rw [beq_eq_false_iff_ne]
      unfold escL
      split
      · exact one_two
      · intro h; exact let_dot hL (one_inj h).symm
    have h2 : (c == 63) = false := by rw [beq_eq_false_iff_ne]; exact let_63 hL
    rw [h1, h2]
theorem fits_of {nm : List Nat} {c d : Nat} {q : Int} (hq : q < (nm.length : Int)) (hd : nm[q.toNat]? = some d) : fits nm c q = (c == 63 || d == c) := by
  unfold fits
  rw [decide_eq_true hq, Bool.true_and, List.getD_eq_getElem?_getD, hd, Option.getD_some]
theorem getq {nm : List Nat} {q : Int} (h0 : 0 ≤ q) (hq : q < (nm.length : Int)) : ∃ d, nm[q.toNat]? = some d := ⟨nm[q.toNat]'(by omega), List.getElem?_eq_getElem (by omega)⟩
theorem fits_plus {nm : List Nat} {c : Nat} {x : Str} {q : Int} (hcl : c = 63 ∨ Letter c) (hx : x = partT c) (hq : q < (nm.length : Int)) (h0 : 0 ≤ q) (hp : (Txt.item ⟨nm.toArray⟩ q == Str.ofString "+") = true) :
    ([Str.ofString ".", Str.ofString "\\+"].any fun y => y == x) = fits nm c q := by
  obtain ⟨d, hd⟩ := getq h0 hq
  rw [item_of h0 hd, beq_iff_eq, plus_is] at hp
  have := one_inj hp
  subst this
  rw [fits_of hq hd, bplus_is]
  exact any_part (d := 43) hcl hx
theorem fits_other {nm : List Nat} {c : Nat} {x : Str} {q : Int} (hcl : c = 63 ∨ Letter c) (hx : x = partT c) (hq : q < (nm.length : Int)) (h0 : 0 ≤ q) (hp : (Txt.item ⟨nm.toArray⟩ q == Str.ofString "+") = false) :
    ([Str.ofString ".", Txt.item ⟨nm.toArray⟩ q].any fun y => y == x) = fits nm c q := by
  obtain ⟨d, hd⟩ := getq h0 hq
  rw [item_of h0 hd, beq_eq_false_iff_ne, plus_is] at hp
  have hne : d ≠ 43 := fun e => hp (by rw [e])
  rw [fits_of hq hd, item_of h0 hd]
  have e : (⟨#[d]⟩ : Str) = ⟨(escL d).toArray⟩ := by unfold escL; rw [if_neg hne]
  rw [e]
  exact any_part hcl hx
theorem fits_out {nm : List Nat} {c : Nat} {q : Int} (hq : ¬ q < (nm.length : Int)) : fits nm c q = false := by
  unfold fits
  rw [decide_eq_false hq, Bool.false_and]
theorem fold_fits {nm : List Nat} {c : Nat} : ∀ (ps acc : List Int), ps.foldl (fun l q => if fits nm c q = true then l ++ [q + 1] else l) acc = acc ++ (ps.filter (fits nm c)).map fun q => q + 1
  | [], acc => by simp
  | q :: r, acc => by
    rw [List.foldl_cons, fold_fits r]
    by_cases h : fits nm c q = true
    · rw [if_pos h, List.filter_cons_of_pos h, List.map_cons, List.append_assoc]; rfl
    · rw [if_neg h, List.filter_cons_of_neg h]
section
variable {h₀ h' : Heap} {L I C D : Addr} {m : Str → Option Value} {s : Shared} {oI oC : Obj} {S : List (Addr × Obj) → Prop} {tk : Nat} {all news : List (Addr × Obj)} {ys : List Value} {nm : List Nat} {c : Nat} {q : Int} {l : List Int} {t : Tok} {y : Value}
theorem comp_yes (F : Fr h₀ L h' m) (N : News h₀ L h' all) (sub : ∀ p ∈ (I, oI) :: (C, oC) :: (D, LCg.lst ys) :: news, p ∈ all) (off : LCg.Off3 I C D news) (hS : S news) (hf : fits nm c q = true) :
    LCg.CompEnd h₀ L m s I oI C oC D (LCg.lst ys) S (fun y news' => KCiEl news l (if fits nm c q = true then l ++ [q + 1] else l) y news') (.int (q + 1) t) { s with heap := h', toks := tk } :=
  LCg.CompEnd.intro F N news sub off hS ⟨rfl, _, _, rfl, if_pos hf⟩
theorem comp_no (F : Fr h₀ L h' m) (N : News h₀ L h' all) (sub : ∀ p ∈ (I, oI) :: (C, oC) :: (D, LCg.lst ys) :: news, p ∈ all) (off : LCg.Off3 I C D news) (hS : S news) (hf : fits nm c q = false) :
    LCg.CompEnd h₀ L m s I oI C oC D (LCg.lst ys) S (fun _ news' => KCiNo news l (if fits nm c q = true then l ++ [q + 1] else l) news') y { s with heap := h', toks := tk } :=
  LCg.CompEnd.intro F N news sub off hS ⟨rfl, if_neg (by rw [hf]; exact Bool.false_ne_true)⟩
end
theorem ints_of_places : ∀ (vs : List Value) (a : Int), (∀ (j : Nat) v, vs[j]? = some v → ∃ t, v = .int (a + (j : Int) * 1) t) → IntsAre vs (rangeKs a vs.length)
  | [], a, _ => .nil
  | v :: r, a, h => by
    obtain ⟨t, e⟩ := h 0 v rfl
    have e2 : rangeKs a (v :: r).length = a :: rangeKs (a + 1) r.length := by
      unfold rangeKs
      rw [List.length_cons, List.range_succ_eq_map, List.map_cons, List.map_map]
      congr 1
      · omega
      · apply List.map_congr_left
        intro i _
        simp only [Function.comp_apply]
        omega
    rw [e2, e]
    have e3 : a + ((0 : Nat) : Int) * 1 = a := by omega
    rw [e3]
    refine .cons _ _ (ints_of_places r (a + 1) fun j v hj => ?_)
    obtain ⟨t', e'⟩ := h (j + 1) v (by simpa using hj)
    exact ⟨t', by rw [e']; congr 1; omega⟩
theorem list_rangeK {prog : Program} {w : World} {A : Around} {E : Value → Shared → Prop} {s : Shared} {h₀ : Heap} {L : Addr} {m : Str → Option Value} {news : List (Addr × Obj)} {Q : Value → Shared → Prop} {r : Addr} {a b : Int} {t u v : Tok}
    (hh : A.handled = none) (F : Fr h₀ L s.heap m) (N : News h₀ L s.heap news) (hr : IsRange s.heap r a b 1 t u v) (h0 : 0 ≤ a) (h1 : a ≤ 1000) (h2 : 0 ≤ b) (h3 : b ≤ 1000)
    (h : ∀ D c h' tk vs, Fr h₀ L h' m → News h₀ L h' ((D, listOf vs.toArray c) :: news) → (∀ q ∈ news, q.1 < D) → IntsAre vs (rangeKs a (b - a).toNat) → Q (.ref D) { s with heap := h', toks := tk }) :
    wpAny (model prog w) A (call (.type "list") [.ref r]) Q E s := by
  refine call_list_range (n := (b - a).toNat) hh hr (small_one (by omega) (by omega) (by omega) (by omega)) (rangeSize_nat _ _) (by omega) fun h' tk acc' c' hk hS' hacc => ?_
  refine h _ c' h' tk acc'.toList (F.keeps hk) (news_pushed F N hk hS' rfl) (fun q hq => Heap.lt_size (N q hq).1) ?_
  have e : (b - a).toNat = acc'.toList.length := by rw [Array.length_toList]; exact hacc.1.symm
  rw [e]
  exact ints_of_places _ _ fun j v hj => hacc.2 j v (by rw [← Array.getElem?_toList]; exact hj)
local macro_rules | `(tactic| walk_at "my none") => `(tactic| skip)
local macro_rules | `(tactic| walk_at "exec Assign cons ListComp") => `(tactic| (k_here; refine StopHere.go ?_))
local macro_rules | `(tactic| walk_at "CompSrcT") => `(tactic| (k_here; refine StopHere.go ?_))
local macro_rules | `(tactic| walk_at "CompEnd") => `(tactic| (refine StopHere.go ?_))
local macro_rules | `(tactic| walk_at "call type:list") => `(tactic| (k_here; (with_reducible show wpAny _ _ (call (Value.type _) [Value.ref _]) _ _ _); k_dflt (refine list_rangeK (by rfl) (by k_asm) (by k_asm) (by assumption) (by omega) (by omega) (by omega) (by omega) ?_); intro D' c' h' tk' vs' F' N' l1 hR'; (try k_lt l1); (try k_sweep)))
local macro_rules | `(tactic| walk_at "call builtin:len") => `(tactic| ((with_reducible show wpAny _ _ (call (Value.builtin "len") [Value.str _ _]) _ _ _); refine len_l (by omega) ?_; intro _ _))
section
variable {w : World} {A : Around} {s : Shared} {Q E : Value → Shared → Prop} {p : Program} {loose : List Str} {mean : ExcName → Option Value} {mg mb : Str → Option Value}
set_option maxHeartbeats 1600000 in
theorem c_law_takes {pt nm : List Nat} {vs : List Value} {n : Nat} {D : Addr} {t : Tok} (hpt : PatOK pt) (hnm : ∀ c ∈ nm, Letter c) (hl : nm.length ≤ 20) (hv : PartsAre vs pt) (hlp : pt.length ≤ 20)
    (hh : A.handled = none) (hdp : A.depth ≤ 470) (X : (hd.heap_39 w.params).In s.heap) (T : Top p loose mean mg mb s.heap) (hD : s.heap.get? D = some (listOf vs.toArray n))
    (hQ : ∀ h' tk, s.heap.StaysIn h' → Q (.bool (takesL nm pt)) { s with heap := h', toks := tk }) : wpAny (model PySem.Challenge.rw_ku0026_01.row.prog w) A (call (.ref 197) [.ref D, .str ⟨nm.toArray⟩ t]) Q E s := by
  (rename Frag.In _ _ => X'; revert X'; k_fill; intro X')
  obtain ⟨hd, dp, fr, gd, un⟩ := A
  dsimp only at hh hdp
  subst hh
  refine wpAny_call ?_
  refine enterC (hid := []) (by assumption) T (fun b o e => e) (by simp) (by k_is) (by k_is) (by (show _ < recursionLimit); simp only [recursionLimit]; omega) (BindsTo.of_eq rfl) rfl (by decide +kernel) rfl rfl rfl ?_
  intro g L' h₁ tk cells G F' N' Y hs hL X' T'
  k_cells Y
  rename_i o1 o2 d1 d2
  rename Frag.In _ s.heap => X0
  (try dsimp only)
  k_unmd
  k_fold
  k_steps
  refine wpAny_For ?_ (by intro _; rfl)
  k_steps
  unfold StopHere
  rename Fr _ _ _ _ => F2
  rename News _ _ _ _ => N2
  rename _ ∧ _ => l1
  have d2' : o2.data = .cell (some (.str ⟨nm.toArray⟩ t)) := d2.trans (by kernel_rfl)
  clear d2
  have hDg : g.IsList D vs.toArray := ⟨_, G.keep D _ (by simp) hD, rfl, n, rfl⟩
  refine for_cell (TkJ nm pt (L' + 1 + 1) (L' + 1) o2 _) rfl hDg F2 N2 ⟨_, _, _, o1, _, .cons 0 _ .nil, (tkMap_self (if_pos rfl)).symm, rfl, d1, Nat.ne_of_lt l1.1, Nat.ne_of_lt l1.2⟩ ?_ ?_
  · clear F2 N2 d1
    intro I i v h tk₁ m₁ news₁ it hI hvi hJ hn hit F3 N3
    obtain ⟨P, vals, e, oc, cv, hi, rfl, rfl, hoc, p1, p2⟩ := hJ
    obtain ⟨c, hc, hcv⟩ := hv.get i v hvi
    have hok := pl_ok nm pt i
    have hpl := pl_len nm pt i
    have hstep := pl_succ (nm := nm) hc
    generalize plAt nm pt i = ps at hi hok hpl hstep
    have hg0 : 0 < ps.length → 0 ≤ ps.getD (Int.toNat 0) 0 ∧ ps.getD (Int.toNat 0) 0 ≤ 20 := fun hp => by
      have := hok (ps.getD (Int.toNat 0) 0) (by
        rw [List.getD_eq_getElem?_getD, List.getElem?_eq_getElem (show Int.toNat 0 < ps.length from hp)]
        exact List.getElem_mem _)
      omega
    have hI' := allLt_of hI
    obtain ⟨_, i1, i2, _⟩ := hI'
    have n1 : @Ne Nat P I := hn _ (.head _)
    clear hI hn
    unfold tkMap at F3
    dsimp only at F3
    change Fr g L' h _ at F3
    change News g L' h _ at N3
    by_cases h42 : c = 42
    · subst h42
      obtain rfl : v = .none := by unfold PartOK at hcv; rw [if_pos rfl] at hcv; exact hcv
      k_steps
      · have hg1 := hg0 (by assumption)
        k_steps
        rename Fr _ _ _ _ => F4
        rename News _ _ _ _ => N4
        rename IntsAre _ (rangeKs _ _) => hR
        refine tk_end hR (hstep.trans (step_star (by assumption))) F4 N4 (by k_mem) (by k_mem) (by k_mem) (by k_mem) (by assumption) ?_ (by omega) (by omega) (by omega) (by omega) (by omega)
        funext y
        unfold tkMap
        by_cases e : y = Str.ofString "places"
        · simp only [if_pos e]
        · simp only [if_neg e]
      · rename Fr _ _ _ _ => F4
        rename News _ _ _ _ => N4
        have hps := tk_nil hi (by assumption)
        subst hps
        refine tk_end .nil (hstep.trans rfl) F4 N4 (by k_mem) (by k_mem) (by k_mem) (by k_mem) (by assumption) ?_ (by omega) (by omega) (by omega) (by omega) (by omega)
        funext y
        unfold tkMap
        by_cases e : y = Str.ofString "places"
        · simp only [if_pos e]
        · simp only [if_neg e]
    · obtain ⟨x, tx, rfl, hx⟩ := part_text h42 hcv
      have hcl : c = 63 ∨ Letter c := (hpt.1 c (List.mem_of_getElem? hc)).resolve_left h42
      k_steps
      unfold StopHere
      rename Fr _ _ _ _ => F4
      rename News _ _ _ _ => N4
      refine LCt.Assign_ListComp_T (F₀ := F4) (by rfl) (by with_unfolding_all rfl) (by with_unfolding_all rfl) (by decide) (by rfl) (by decide) (by rfl) (by rfl) (by rfl) ?_
      k_steps
      unfold StopHere
      rename Fr _ _ _ _ => F4
      rename News _ _ _ _ => N4
      have hlv : vals.length = ps.length := hi.length
      refine LCt.CompSrcT.ledger (by rfl) F4 N4 (by k_mem) (by rw [sizeLine_eq, List.size_toArray]; omega) ?_
      intro g'
      clear F4 N4
      refine kci_list (fun l q => if fits nm c q = true then l ++ [q + 1] else l) hi (fun q tq I' oI C' oC D' m2 ys l hh2 tk2 E' hq hys hC hxq F5 N5 off ne _ => ?_) ?_ ?_
      · have off0 := off
        simp only [LCg.Off3, and_true] at off
        have hqb := hok q hq
        have hel : ((⟨nm.toArray⟩ : Str).length : Int) = (nm.length : Int) := by show ((nm.toArray.size : Nat) : Int) = _; rw [List.size_toArray]
        k_steps
        · have hf := (fits_plus hcl hx (by assumption) hqb.1 (by assumption)).symm.trans (by assumption)
          unfold StopHere
          rename Fr _ _ _ _ => F6
          rename News _ _ _ _ => N6
          exact comp_yes F6 N6 (fun p hp => .tail _ hp) off0 (.inr ⟨_, .tail _ (.head _), rfl, _, rfl⟩) hf
        · have hf := (fits_plus hcl hx (by assumption) hqb.1 (by assumption)).symm.trans (by assumption)
          unfold StopHere
          rename Fr _ _ _ _ => F6
          rename News _ _ _ _ => N6
          exact comp_no F6 N6 (fun p hp => .tail _ hp) off0 (.inr ⟨_, .tail _ (.head _), rfl, _, rfl⟩) hf
        · have hf := (fits_other hcl hx (by assumption) hqb.1 (by assumption)).symm.trans (by assumption)
          unfold StopHere
          rename Fr _ _ _ _ => F6
          rename News _ _ _ _ => N6
          exact comp_yes F6 N6 (fun p hp => .tail _ hp) off0 (.inr ⟨_, .tail _ (.head _), rfl, _, rfl⟩) hf
        · have hf := (fits_other hcl hx (by assumption) hqb.1 (by assumption)).symm.trans (by assumption)
          unfold StopHere
          rename Fr _ _ _ _ => F6
          rename News _ _ _ _ => N6
          exact comp_no F6 N6 (fun p hp => .tail _ hp) off0 (.inr ⟨_, .tail _ (.head _), rfl, _, rfl⟩) hf
        · have hf : fits nm c q = false := fits_out (by assumption)
          unfold StopHere
          rename Fr _ _ _ _ => F6
          rename News _ _ _ _ => N6
          exact comp_no F6 N6 (fun p hp => hp) off0 (.inr ⟨_, .tail _ (.head _), rfl, _, rfl⟩) hf
      · unfold KPfDone
        intro ys hys _
        rw [fold_fits, List.nil_append] at hys
        intro D2 h3 tk3 F6 N6 off1
        simp only [LCg.Off1, and_true] at off1
        k_steps
        rename Fr _ _ _ _ => F7
        rename News _ _ _ _ => N7
        refine tk_end hys (hstep.trans (by unfold stepI; rw [if_neg h42])) F7 N7 (by k_mem) (by k_mem) (by k_mem) (by k_mem) (by assumption) ?_ (by omega) (by omega) (by omega) (by omega) (by omega)
        funext y
        unfold tkMap
        by_cases e : y = Str.ofString "places"
        · simp only [if_pos e]
        · simp only [if_neg e]
      · intro l k
        dsimp only
        split
        · rw [List.length_append, List.length_singleton]; omega
        · omega
  · clear F2 N2 d1
    intro h tk₁ m₁ news₁ hJ F3 N3
    obtain ⟨P, vals, e, oc, cv, hi, rfl, rfl, hoc, p1, p2⟩ := hJ
    have hpl := pl_len nm pt vs.length
    have hps : takesL nm pt = ((plAt nm pt vs.length).any fun q => q == (nm.length : Int)) := by
      unfold takesL plAt
      rw [List.take_of_length_le (by rw [hv.length]; exact Nat.le_refl _)]
    generalize plAt nm pt vs.length = ps at hi hpl hps
    unfold tkMap at F3
    dsimp only at F3
    change Fr g L' h _ at F3
    change News g L' h _ at N3
    k_steps
    (try dsimp only); (try k_unfold); (try dsimp only)
    exact retB (Q := Q) hps.symm (hQ _ _ fun b o e => F3.keep _ _ (G.keep _ _ (by simp) e))
end
end TK

section
variable {G0 g h h' : Heap} {L : Addr} {m : Str → Option Value} {news : List (Addr × Obj)}
theorem tl_go (k : Nat) (F : Fr g L h m) (N : News g L h news) (hk : KeepT h h') (S5 : St54 G0 h') (S6 : St61 G0 h') (g5 : g.get? 54 = none) (g6 : g.get? 61 = none) (l5 : 54 ≠ L) (l6 : 61 ≠ L)
    (h5 : ∀ p ∈ news.take k, p.1 ≠ 54) (h6 : ∀ p ∈ news.take k, p.1 ≠ 61) : Fr g L h' m ∧ ∃ p c5 o5 q c6 o6, T4 G0 g p c5 o5 q c6 o6 ∧ News g L h' (news.take k ++ tl4 p c5 o5 q c6 o6) := by
  obtain ⟨oL, es, ep, e, r⟩ := F.ns
  have F' : Fr g L h' m := ⟨⟨oL, es, ep, hk _ _ (Ne.symm l5) (Ne.symm l6) e, r⟩, fun b o e => hk b o (fun q => by rw [q, g5] at e; cases e) (fun q => by rw [q, g6] at e; cases e) (F.keep b o e), F.above⟩
  exact ⟨F', tl_of F' (fun x hp => ⟨hk _ _ (h5 x hp) (h6 x hp) (N x (List.mem_of_mem_take hp)).1, (N x (List.mem_of_mem_take hp)).2⟩) S5 S6 g5 g6 l5 l6⟩
end
section
open LCg LCt
variable {prog : Program} {w : World} {A : Around} {h₀ : Heap} {L : Addr} {m : Str → Option Value} {env : Env} {ct elt : Expr} {x : Str} {scope : Scope} {cl : List (Str × Addr)} {s : Shared} {S : List (Addr × Obj) → Prop} {P : Nat → Value → Prop} {Fin : List Value → List (Addr × Obj) → Prop} {news : List (Addr × Obj)}
theorem comp_inv {n : Nat} (J : Nat → List Value → List (Addr × Obj) → Prop)
    (turn : ∀ i v I oI C oC D m₂ ys nw h tk (E' : Value → Shared → Prop), i < n → P i v → J i ys nw → NsObj oC m₂ → m₂ x = some v → Fr h₀ L h m → News h₀ L h ((I, oI) :: (C, oC) :: (D, lst ys) :: nw) → Off3 I C D nw → ((@Ne Nat I C) ∧ (@Ne Nat I D) ∧ (@Ne Nat C D)) →
      wpAny (model prog w) A (eval elt (compEnvC scope cl C env)) (CompEnd h₀ L m { s with heap := h, toks := tk } I oI C oC D (lst ys) S (fun y nw' => J (i + 1) (ys ++ [y]) nw')) E' { s with heap := h, toks := tk })
    (h0 : J 0 [] news) (fin : ∀ ys nw, J n ys nw → Fin ys nw) : CompRest prog w A h₀ L m env elt x scope cl s S P Fin n 0 [] news := by
  have key : ∀ (j i : Nat) ys nw, i + j = n → J i ys nw → CompRest prog w A h₀ L m env elt x scope cl s S P Fin j i ys nw := by
    intro j
    induction j with
    | zero =>
      intro i ys nw hi hJ
      obtain rfl : i = n := by omega
      exact CompRest.zero (fin ys nw hJ)
    | succ j ih =>
      intro i ys nw hi hJ
      refine CompRest.succ ?_
      intro v I oI C oC D m₂ h tk E' hv hC hx F N off ne
      refine wpAny_mono (turn i v I oI C oC D m₂ ys nw h tk E' (by omega) hv hJ hC hx F N off ne) (fun y s₂ hq => ?_) fun _ _ e => e
      obtain ⟨h', tk', nw', e, F', N', off', hS, hJ'⟩ := hq
      exact ⟨h', tk', nw', e, F', N', off', hS, ih (i + 1) _ _ (by omega) hJ'⟩
  exact key n 0 [] news (by omega) h0
theorem comp_invT {n : Nat} (J : Nat → List Value → List (Addr × Obj) → Prop)
    (turn : ∀ i v I oI C oC D m₂ ys nw h tk (E' : Value → Shared → Prop), i < n → P i v → J i ys nw → NsObj oC m₂ → m₂ x = some v → Fr h₀ L h m → News h₀ L h ((I, oI) :: (C, oC) :: (D, lst ys) :: nw) → Off3 I C D nw → ((@Ne Nat I C) ∧ (@Ne Nat I D) ∧ (@Ne Nat C D)) →
      wpAny (model prog w) A (isTrue ct (compEnvC scope cl C env) (eval ct (compEnvC scope cl C env))) (fun b s' => if b = true then wpAny (model prog w) A (eval elt (compEnvC scope cl C env)) (CompEnd h₀ L m { s with heap := h, toks := tk } I oI C oC D (lst ys) S (fun y nw' => J (i + 1) (ys ++ [y]) nw')) E' s'
        else CompEnd h₀ L m { s with heap := h, toks := tk } I oI C oC D (lst ys) S (fun _ nw' => J (i + 1) ys nw') Value.none s') E' { s with heap := h, toks := tk })
    (h0 : J 0 [] news) (fin : ∀ ys nw, J n ys nw → Fin ys nw) : CompRestT prog w A h₀ L m env ct elt x scope cl s S P Fin n 0 [] news := by
  have key : ∀ (j i : Nat) ys nw, i + j = n → J i ys nw → CompRestT prog w A h₀ L m env ct elt x scope cl s S P Fin j i ys nw := by
    intro j
    induction j with
    | zero =>
      intro i ys nw hi hJ
      obtain rfl : i = n := by omega
      exact CompRestT.zero (fin ys nw hJ)
    | succ j ih =>
      intro i ys nw hi hJ
      refine CompRestT.succ ?_
      intro v I oI C oC D m₂ h tk E' hv hC hx F N off ne
      refine wpAny_mono (turn i v I oI C oC D m₂ ys nw h tk E' (by omega) hv hJ hC hx F N off ne) (fun b s₂ hq => ?_) fun _ _ e => e
      cases b with
      | true =>
        simp only [if_true] at hq ⊢
        refine wpAny_mono hq (fun y s₃ hr => ?_) fun _ _ e => e
        obtain ⟨h', tk', nw', e, F', N', off', hS, hJ'⟩ := hr
        exact ⟨h', tk', nw', e, F', N', off', hS, ih (i + 1) _ _ (by omega) hJ'⟩
      | false =>
        simp only [Bool.false_eq_true, if_false] at hq ⊢
        obtain ⟨h', tk', nw', e, F', N', off', hS, hJ'⟩ := hq
        exact ⟨h', tk', nw', e, F', N', off', hS, ih (i + 1) _ _ (by omega) hJ'⟩
  exact key n 0 [] news (by omega) h0
end
theorem mul_marks {k : Nat} (hk : k < 8) : MulOk (Str.ofString "?") (k : Int) ∧ Txt.mul (Str.ofString "?") (k : Int) = ⟨(List.replicate k 63).toArray⟩ := by
  have hc : k = 0 ∨ k = 1 ∨ k = 2 ∨ k = 3 ∨ k = 4 ∨ k = 5 ∨ k = 6 ∨ k = 7 := by omega
  unfold MulOk
  rcases hc with rfl | rfl | rfl | rfl | rfl | rfl | rfl | rfl <;> decide +kernel
theorem mul_two {l : List Nat} (hl : l.length = 8) : MulOk ⟨l.toArray⟩ 2 ∧ Txt.mul ⟨l.toArray⟩ 2 = ⟨(l ++ l).toArray⟩ := by
  have e : (⟨l.toArray⟩ : Str).length = 8 := by show l.toArray.size = 8; rw [List.size_toArray, hl]
  refine ⟨?_, ?_⟩
  · unfold MulOk
    rw [e]
    decide
  · unfold Txt.mul
    rw [e, if_neg (by decide), if_neg (by decide)]
    obtain ⟨a, b, c, d, e, f, g, i, rfl⟩ := Codec.len8 hl
    kernel_rfl
theorem star_is : Str.ofString "*" = ⟨[42].toArray⟩ := by decide +kernel
section
variable {prog : Program} {w : World} {A : Around} {E : Value → Shared → Prop} {s : Shared} {l : List Nat} {t u : Tok} {Q : Value → Shared → Prop} {n : Int}
theorem mul_mk (h0 : 0 ≤ n) (h8 : n < 8) (h : ∀ t' k, Q (.str ⟨(List.replicate n.toNat 63).toArray⟩ t') { s with toks := k }) : wpAny (model prog w) A (binaryOp .Mult (.str (Str.ofString "?") t) (.int n u)) Q E s := by
  obtain ⟨k, rfl⟩ := Int.eq_ofNat_of_zero_le h0
  have hm := mul_marks (k := k) (by omega)
  refine SB.mul hm.1 fun t' k' => ?_
  rw [hm.2]
  exact h _ _
theorem mul_tw (hl : l.length = 8) (h : ∀ t' k, Q (.str ⟨(l ++ l).toArray⟩ t') { s with toks := k }) : wpAny (model prog w) A (binaryOp .Mult (.str ⟨l.toArray⟩ t) (.int 2 u)) Q E s := by
  have hm := mul_two hl
  refine SB.mul hm.1 fun t' k' => ?_
  rw [hm.2]
  exact h _ _
theorem add_star (hsz : l.length ≤ 90) (h : ∀ t' k, Q (.str ⟨(l ++ [42]).toArray⟩ t') { s with toks := k }) : wpAny (model prog w) A (binaryOp .Add (.str ⟨l.toArray⟩ t) (.str (Str.ofString "*") u)) Q E s := by
  rw [star_is]
  exact add_l (by simp only [List.length_cons, List.length_nil]; omega) h
theorem star_add (hsz : l.length ≤ 90) (h : ∀ t' k, Q (.str ⟨([42] ++ l).toArray⟩ t') { s with toks := k }) : wpAny (model prog w) A (binaryOp .Add (.str (Str.ofString "*") t) (.str ⟨l.toArray⟩ u)) Q E s := by
  rw [star_is]
  exact add_l (by simp only [List.length_cons, List.length_nil]; omega) h
end
def law1 : Stmt := PySem.Challenge.pw_ku0026_01.main.body.getD 35 default
theorem pat_marks {k : Nat} {l : List Nat} (hl : ∀ c ∈ l, Letter c) (h0 : l ≠ []) : PatOK (List.replicate k 63 ++ l ++ [42]) := by
  have hn : ∀ c ∈ List.replicate k 63 ++ l, c ≠ 42 := fun c hc => by
    rcases List.mem_append.mp hc with h | h
    · rw [List.eq_of_mem_replicate h]; decide
    · rintro rfl; exact absurd (hl _ h).2 (by decide)
  refine ⟨fun c hc => ?_, fun i hi => ?_⟩
  · rcases List.mem_append.mp hc with h | h
    · rcases List.mem_append.mp h with h | h
      · exact .inr (.inl (List.eq_of_mem_replicate h))
      · exact .inr (.inr (hl c h))
    · exact .inl (List.mem_singleton.mp h)
  · by_cases hlt : i < (List.replicate k 63 ++ l).length
    · rw [List.getElem?_append_left hlt] at hi
      exact absurd rfl (hn 42 (List.mem_of_getElem? hi))
    · have hlen := (List.getElem?_eq_some_iff.mp hi).1
      rw [List.length_append, List.length_singleton] at hlen
      by_cases hi0 : i = 0
      · exact .inl hi0
      · have hp : i - 1 < (List.replicate k 63 ++ l).length := by omega
        refine .inr ⟨(List.replicate k 63 ++ l)[i - 1], ?_, hn _ (List.getElem_mem _)⟩
        rw [List.getElem?_append_left hp, List.getElem?_eq_getElem hp]
theorem pat_star {l : List Nat} (hl : ∀ c ∈ l, Letter c) (h0 : l ≠ []) : PatOK ([42] ++ l ++ [42]) := by
  have hn : ∀ c ∈ l, c ≠ 42 := fun c hc => by rintro rfl; exact absurd (hl _ hc).2 (by decide)
  refine ⟨fun c hc => ?_, fun i hi => ?_⟩
  · rcases List.mem_append.mp hc with h | h
    · rcases List.mem_append.mp h with h | h
      · exact .inl (List.mem_singleton.mp h)
      · exact .inr (.inr (hl c h))
    · exact .inl (List.mem_singleton.mp h)
  · by_cases hi0 : i = 0
    · exact .inl hi0
    · have hlen := (List.getElem?_eq_some_iff.mp hi).1
      have hll : 0 < l.length := List.length_pos_iff.mpr h0
      simp only [List.length_append, List.length_cons, List.length_nil] at hlen
      have e : ([42] ++ l ++ [42])[i]? = (l ++ [42])[i - 1]? := by
        obtain ⟨j, rfl⟩ : ∃ j, i = j + 1 := ⟨i - 1, by omega⟩
        simp
      rw [e] at hi
      by_cases hlt : i - 1 < l.length
      · rw [List.getElem?_append_left hlt] at hi
        exact absurd rfl (hn 42 (List.mem_of_getElem? hi))
      · refine .inr ⟨l[i - 1 - 1]'(by omega), ?_, hn _ (List.getElem_mem _)⟩
        obtain ⟨j, rfl⟩ : ∃ j, i = j + 2 := ⟨i - 2, by omega⟩
        have hj : j < l.length := by omega
        have e2 : ([42] ++ l ++ [42])[j + 2 - 1]? = (l ++ [42])[j]? := by simp
        rw [e2, List.getElem?_append_left hj, List.getElem?_eq_getElem hj]
        rfl
theorem let_pat {c : Nat} (h : Letter c) : c ≠ 42 ∧ c ≠ 63 := ⟨by rintro rfl; exact absurd h.2 (by decide), let_63 h⟩
-- the ground of a call, in the midst of the law: the heap as it stands, without the tables and their code objects
abbrev tabG (h : Heap) (c5 c6 : Addr) : Heap := hideAll h [54, 61, c5, c6]
section
variable {G0 h h' : Heap} {L : Addr} {m : Str → Option Value} {news : List (Addr × Obj)} {p q : Array Value} {c5 c6 : Addr} {o5 o6 : Obj}
theorem tg_stays : (tabG h c5 c6).StaysIn h := fun b o e => of_hideAll _ e
theorem tg_54 : (tabG h c5 c6).get? 54 = none := hideAll_none _ (by simp)
theorem tg_61 : (tabG h c5 c6).get? 61 = none := hideAll_none _ (by simp)
theorem tg_c5 : (tabG h c5 c6).get? c5 = none := hideAll_none _ (by simp)
theorem tg_c6 : (tabG h c5 c6).get? c6 = none := hideAll_none _ (by simp)
theorem tg_get {b : Addr} {o : Obj} (e : h.get? b = some o) (h1 : b ≠ 54) (h2 : b ≠ 61) (h3 : b ≠ c5) (h4 : b ≠ c6) : (tabG h c5 c6).get? b = some o :=
  hideAll_get _ e (by simp only [List.mem_cons, List.not_mem_nil, or_false, not_or]; exact ⟨h1, h2, h3, h4⟩)
theorem tg_up (F : Fr G0 L h m) (N : News G0 L h news) (m1 : (54, tabObj p) ∈ news) (m2 : (61, tabObj q) ∈ news) (m5 : (c5, o5) ∈ news) (m6 : (c6, o6) ∈ news) : G0.StaysIn (tabG h c5 c6) := fun b o e => by
  have z : ∀ {a : Addr} {x : Obj}, (a, x) ∈ news → b ≠ a := fun hm q => by
    have := (N _ hm).2.2
    rw [show b = _ from q] at e
    rw [this] at e
    cases e
  exact tg_get (F.keep b o e) (z m1) (z m2) (z m5) (z m6)
theorem tg_S {P : Addr} {l c : Int} {qn : Str} {ps : Array Value} {cc : Addr} {oo : Obj} (K : TabKn G0 G0 (cc, oo) P l c qn ps) (N : News G0 L h news) (m1 : (P, tabObj ps) ∈ news) (m2 : (cc, oo) ∈ news) (hz : (tabG h c5 c6).get? cc = none) : TabSt (tabG h c5 c6) P l c qn h := by
  rcases K with rfl | ⟨cd, oc, vs, t, rfl, h1, h2, h3, h4, h5⟩
  · exact .inl (N _ m1).1
  · rcases h1 with h1 | h1
    · obtain ⟨e1, e2⟩ := Prod.mk.inj h1
      subst e1 e2
      exact .inr ⟨cd, oc, vs, t, (N _ m1).1, (N _ m2).1, h2, h3, h4, hz⟩
    · rw [h5] at h1; cases h1
theorem tl_go2 (k : Nat) (F : Fr G0 L h m) (N : News G0 L h news) (m1 : (54, tabObj p) ∈ news) (m2 : (61, tabObj q) ∈ news) (m5 : (c5, o5) ∈ news) (m6 : (c6, o6) ∈ news)
    (hk : KeepT h h') (S5 : St54 (tabG h c5 c6) h') (S6 : St61 (tabG h c5 c6) h') (l5 : 54 ≠ L) (l6 : 61 ≠ L)
    (h5 : ∀ p ∈ news.take k, p.1 ≠ 54) (h6 : ∀ p ∈ news.take k, p.1 ≠ 61) (h7 : ∀ p ∈ news.take k, p.1 ≠ c5) (h8 : ∀ p ∈ news.take k, p.1 ≠ c6) :
    Fr G0 L h' m ∧ ∃ p c5 o5 q c6 o6, T4 G0 G0 p c5 o5 q c6 o6 ∧ News G0 L h' (news.take k ++ tl4 p c5 o5 q c6 o6) ∧ AllNe c5 (news.take k) ∧ AllNe c6 (news.take k) := by
  have g5 := (N _ m1).2.2
  have g6 := (N _ m2).2.2
  have up := tg_up F N m1 m2 m5 m6
  obtain ⟨oL, es, ep, e, r⟩ := F.ns
  have F' : Fr G0 L h' m := ⟨⟨oL, es, ep, hk _ _ (Ne.symm l5) (Ne.symm l6) e, r⟩, fun b o e => hk b o (fun q => by rw [q, g5] at e; cases e) (fun q => by rw [q, g6] at e; cases e) (F.keep b o e), F.above⟩
  have dictL : ∀ o vs, h'.get? L = some o → o.data ≠ .fields vs := fun o vs e hd => by
    obtain ⟨oL, es, ep, e', hd', _⟩ := F'.ns
    rw [e] at e'; cases e'; rw [hd] at hd'; cases hd'
  have one : ∀ P l c q, TabSt (tabG h c5 c6) P l c q h' → P ≠ L → G0.get? P = none → ∃ ps c' o', h'.get? P = some (tabObj ps) ∧ TabKn G0 G0 (c', o') P l c q ps ∧ h'.get? c' = some o' ∧ c' ≠ L ∧ G0.get? c' = none ∧ (c' = P ∨ (tabG h c5 c6).get? c' = none) := by
    intro P l c q S hL hg
    rcases S with S | ⟨cd, oc, vs, t, S, h1, h2, h3, h4, h5⟩
    · exact ⟨_, P, _, S, .inl rfl, S, hL, hg, .inl rfl⟩
    · have hgc : G0.get? cd = none := by
        cases e : G0.get? cd with
        | none => rfl
        | some o => rw [up _ _ e] at h5; cases h5
      exact ⟨_, cd, oc, S, .inr ⟨cd, oc, vs, t, rfl, .inl rfl, h2, h3, h4, hgc⟩, h1, fun e => dictL oc vs (by rw [← e]; exact h1) h2, hgc, .inr h5⟩
  obtain ⟨p', c5', o5', a1, a2, a3, a4, a5, a6⟩ := one _ _ _ _ S5 l5 g5
  obtain ⟨q', c6', o6', b1, b2, b3, b4, b5, b6⟩ := one _ _ _ _ S6 l6 g6
  have kept : ∀ x ∈ news.take k, (tabG h c5 c6).get? x.1 = some x.2 := fun x hx => tg_get (N x (List.mem_of_mem_take hx)).1 (h5 x hx) (h6 x hx) (h7 x hx) (h8 x hx)
  have ne : ∀ {c' P : Addr}, (∀ x ∈ news.take k, x.1 ≠ P) → (c' = P ∨ (tabG h c5 c6).get? c' = none) → ∀ x ∈ news.take k, x.1 ≠ c' := fun hP hc x hx e => by
    rcases hc with hc | hc
    · exact hP x hx (e.trans hc)
    · have := kept x hx
      rw [e, hc] at this
      cases this
  have mk : ∀ {c' : Addr} (l : List (Addr × Obj)), (∀ x ∈ l, x.1 ≠ c') → AllNe c' l := by
    intro c' l
    induction l with
    | nil => intro _; trivial
    | cons x r ih => intro hx; exact ⟨hx x (.head _), ih fun y hy => hx y (.tail _ hy)⟩
  refine ⟨F', p', c5', o5', q', c6', o6', ⟨a2, b2⟩, fun x hx => ?_, mk _ (ne h5 a6), mk _ (ne h6 b6)⟩
  rcases List.mem_append.mp hx with hx | hx
  · exact ⟨hk _ _ (h5 x hx) (h6 x hx) (N x (List.mem_of_mem_take hx)).1, (N x (List.mem_of_mem_take hx)).2⟩
  · simp only [List.mem_cons, List.not_mem_nil, or_false] at hx
    rcases hx with rfl | rfl | rfl | rfl
    · exact ⟨a1, l5, g5⟩
    · exact ⟨a3, a4, a5⟩
    · exact ⟨b1, l6, g6⟩
    · exact ⟨b3, b4, b5⟩
end
theorem rangeKs_succ (n : Nat) : rangeKs 0 (n + 1) = rangeKs 0 n ++ [(n : Int)] := by
  unfold rangeKs
  rw [List.range_succ, List.map_append, List.map_cons, List.map_nil, Int.zero_add]
section
open LCg LCt
variable {prog : Program} {w : World} {A : Around} {h₀ : Heap} {L : Addr} {m : Str → Option Value} {env : Env} {ct elt : Expr} {x : Str} {scope : Scope} {cl : List (Str × Addr)} {s : Shared} {S : List (Addr × Obj) → Prop} {Fin : List Value → List (Addr × Obj) → Prop} {news : List (Addr × Obj)}
-- [k for k in range(n) if ..]
theorem comp_filter {n : Nat} (W : List (Addr × Obj) → Prop) (pz : Int → Bool)
    (turn : ∀ (i : Nat) t I oI C oC D m₂ ys nw h tk (E' : Value → Shared → Prop), i < n → W nw → NsObj oC m₂ → m₂ x = some (.int (i : Int) t) → Fr h₀ L h m → News h₀ L h ((I, oI) :: (C, oC) :: (D, lst ys) :: nw) → Off3 I C D nw → ((@Ne Nat I C) ∧ (@Ne Nat I D) ∧ (@Ne Nat C D)) →
      wpAny (model prog w) A (isTrue ct (compEnvC scope cl C env) (eval ct (compEnvC scope cl C env))) (fun b s' => if b = true then wpAny (model prog w) A (eval elt (compEnvC scope cl C env)) (CompEnd h₀ L m { s with heap := h, toks := tk } I oI C oC D (lst ys) S (fun y nw' => W nw' ∧ pz i = true ∧ ∃ t', y = .int (i : Int) t')) E' s'
        else CompEnd h₀ L m { s with heap := h, toks := tk } I oI C oC D (lst ys) S (fun _ nw' => W nw' ∧ pz i = false) Value.none s') E' { s with heap := h, toks := tk })
    (h0 : W news) (fin : ∀ ys nw, W nw → IntsAre ys ((rangeKs 0 n).filter pz) → Fin ys nw) : CompRestT prog w A h₀ L m env ct elt x scope cl s S (fun i v => ∃ t, v = .int ((0 : Int) + (i : Int)) t) Fin n 0 [] news := by
  refine comp_invT (fun i ys nw => W nw ∧ IntsAre ys ((rangeKs 0 i).filter pz)) ?_ ⟨h0, .nil⟩ fun ys nw hJ => fin ys nw hJ.1 hJ.2
  intro i v I oI C oC D m₂ ys nw h tk E' hi hP hJ hC hx F N off ne
  obtain ⟨t, rfl⟩ := hP
  rw [Int.zero_add] at hx
  have done : ∀ {h : Heap} {tk : Nat} {y : Value} {s₃ : Shared} {ys' : List Value} {R R' : Value → List (Addr × Obj) → Prop}, (∀ y nw', R y nw' → R' y nw') → CompEnd h₀ L m { s with heap := h, toks := tk } I oI C oC D (lst ys) S R y s₃ → CompEnd h₀ L m { s with heap := h, toks := tk } I oI C oC D (lst ys) S R' y s₃ := fun hR hq => by
    obtain ⟨h', tk', nw', e, F', N', off', hS, r⟩ := hq
    exact ⟨h', tk', nw', e, F', N', off', hS, hR _ _ r⟩
  refine wpAny_mono (turn i t I oI C oC D m₂ ys nw h tk E' hi hJ.1 hC hx F N off ne) (fun b s₂ hq => ?_) fun _ _ e => e
  cases b with
  | true =>
    simp only [if_true] at hq ⊢
    refine wpAny_mono hq (fun y s₃ hr => done (ys' := ys) (fun y nw' r => ?_) hr) fun _ _ e => e
    obtain ⟨r1, r2, t', rfl⟩ := r
    refine ⟨r1, ?_⟩
    rw [rangeKs_succ, List.filter_append, List.filter_cons_of_pos r2]
    exact IntsAre.append hJ.2 (.cons _ _ .nil)
  | false =>
    simp only [Bool.false_eq_true, if_false] at hq ⊢
    refine done (ys' := ys) (fun y nw' r => ?_) hq
    obtain ⟨r1, r2⟩ := r
    refine ⟨r1, ?_⟩
    rw [rangeKs_succ, List.filter_append, List.filter_cons_of_neg (by rw [r2]; exact Bool.false_ne_true)]
    simpa using hJ.2
-- [.. for k in ..], an item of each by a relation
theorem comp_map {n : Nat} {P : Nat → Value → Prop} (W : List (Addr × Obj) → Prop) (R : Nat → Value → Prop)
    (turn : ∀ (i : Nat) v I oI C oC D m₂ ys nw h tk (E' : Value → Shared → Prop), i < n → P i v → W nw → NsObj oC m₂ → m₂ x = some v → Fr h₀ L h m → News h₀ L h ((I, oI) :: (C, oC) :: (D, lst ys) :: nw) → Off3 I C D nw → ((@Ne Nat I C) ∧ (@Ne Nat I D) ∧ (@Ne Nat C D)) →
      wpAny (model prog w) A (eval elt (compEnvC scope cl C env)) (CompEnd h₀ L m { s with heap := h, toks := tk } I oI C oC D (lst ys) S (fun y nw' => W nw' ∧ R i y)) E' { s with heap := h, toks := tk })
    (h0 : W news) (fin : ∀ ys nw, W nw → ys.length = n → (∀ i v, ys[i]? = some v → R i v) → Fin ys nw) : CompRest prog w A h₀ L m env elt x scope cl s S P Fin n 0 [] news := by
  refine comp_inv (fun i ys nw => W nw ∧ ys.length = i ∧ ∀ j v, ys[j]? = some v → R j v) ?_ ⟨h0, rfl, fun j v e => by simp at e⟩ fun ys nw hJ => fin ys nw hJ.1 hJ.2.1 hJ.2.2
  intro i v I oI C oC D m₂ ys nw h tk E' hi hP hJ hC hx F N off ne
  refine wpAny_mono (turn i v I oI C oC D m₂ ys nw h tk E' hi hP hJ.1 hC hx F N off ne) (fun y s₃ hr => ?_) fun _ _ e => e
  obtain ⟨h', tk', nw', e, F', N', off', hS, r1, r2⟩ := hr
  refine ⟨h', tk', nw', e, F', N', off', hS, r1, by rw [List.length_append, List.length_singleton, hJ.2.1], fun j v hj => ?_⟩
  by_cases hlt : j < ys.length
  · rw [List.getElem?_append_left hlt] at hj
    exact hJ.2.2 j v hj
  · rw [List.getElem?_append_right (by omega)] at hj
    have hj0 : j - ys.length = 0 := by
      have := (List.getElem?_eq_some_iff.mp hj).1
      simp at this
      omega
    rw [hj0] at hj
    simp at hj
    subst hj
    have : j = i := by have := hJ.2.1; omega
    rw [this]
    exact r2
end
theorem turns_any {Tx Ox : List Nat} {b : Bool} (h : b = true ↔ ∃ k : Nat, k < 8 ∧ rotL Tx (k : Int) = Ox) : b = !decide ((rangeKs 0 8).filter (fun k => decide (rotL Tx k = Ox)) = []) := by
  rw [Bool.eq_iff_iff, h, Bool.not_eq_true', decide_eq_false_iff_not, List.filter_eq_nil_iff]
  simp only [decide_eq_true_eq, Classical.not_forall, Classical.not_not]
  constructor
  · rintro ⟨k, hk, e⟩
    exact ⟨(k : Int), mem_rK.mpr (by omega), e⟩
  · rintro ⟨k, hk, e⟩
    have := mem_rK.mp hk
    exact ⟨k.toNat, by omega, by rw [Int.toNat_of_nonneg (by omega)]; exact e⟩
section
variable {prog : Program} {w : World} {A : Around} {E : Value → Shared → Prop} {s : Shared} {a b n : Int} {t u : Tok} {Q : Value → Shared → Prop}
theorem pow64 (h0 : 0 ≤ n) (h8 : n ≤ 8) (h : ∀ t' k, Q (.int ((64 ^ n.toNat : Nat) : Int) t') { s with toks := k }) : wpAny (model prog w) A (binaryOp .Pow (.int 64 t) (.int n u)) Q E s := by
  refine pow_int_small h0 (by omega) (by decide) ?_
  have e : (64 : Int) ^ n.toNat = ((64 ^ n.toNat : Nat) : Int) := by simp
  rw [e]
  exact h _ _
theorem mulK (h0 : 0 ≤ b) (h1 : b < 281474976710656) (h : ∀ t' k, Q (.int (a * b) t') { s with toks := k }) : wpAny (model prog w) A (binaryOp .Mult (.int a t) (.int b u)) Q E s :=
  PyProof.Rows.mul_int (h _ _) (IntMulOk.of_right (intBits_le (show b.natAbs < 2 ^ 64 by omega)))
theorem eq_l {x y : List Nat} (h : Q (.bool (decide (x = y))) s) : wpAny (model prog w) A (compareOp .Eq (.str ⟨x.toArray⟩ t) (.str ⟨y.toArray⟩ u)) Q E s := by
  refine PyProof.Rows.eq_str ?_
  have e : ((⟨x.toArray⟩ : Str) == ⟨y.toArray⟩) = decide (x = y) := by
    rw [Bool.eq_iff_iff, beq_iff_eq, decide_eq_true_eq]
    constructor
    · intro h; injection h with h; simpa using h
    · rintro rfl; rfl
  rw [e]
  exact h
end
theorem pow_bd {k : Nat} (hk : k < 8) : (1 : Int) ≤ ((64 ^ k : Nat) : Int) ∧ ((64 ^ k : Nat) : Int) < 281474976710656 := by
  have hc : k = 0 ∨ k = 1 ∨ k = 2 ∨ k = 3 ∨ k = 4 ∨ k = 5 ∨ k = 6 ∨ k = 7 := by omega
  rcases hc with rfl | rfl | rfl | rfl | rfl | rfl | rfl | rfl <;> decide
theorem prod_bd {f : Int} {k : Nat} (hk : k < 8) (h0 : 0 ≤ f) (h1 : f < 281474976710656) : 0 ≤ f * ((64 ^ k : Nat) : Int) ∧ f * ((64 ^ k : Nat) : Int) < 79228162514264337593543950336 := by
  have hc : k = 0 ∨ k = 1 ∨ k = 2 ∨ k = 3 ∨ k = 4 ∨ k = 5 ∨ k = 6 ∨ k = 7 := by omega
  rcases hc with rfl | rfl | rfl | rfl | rfl | rfl | rfl | rfl <;> simp <;> omega
theorem off_tl {own : List (Addr × Obj)} {I C D c5 c6 c5' c6' : Addr} {p q p' q' : Array Value} {o5 o6 o5' o6' : Obj} (h : LCg.Off3 I C D (own ++ tl4 p c5 o5 q c6 o6))
    (a5 : (@Ne Nat I c5') ∧ (@Ne Nat C c5') ∧ (@Ne Nat D c5')) (a6 : (@Ne Nat I c6') ∧ (@Ne Nat C c6') ∧ (@Ne Nat D c6')) : LCg.Off3 I C D (own ++ tl4 p' c5' o5' q' c6' o6') := by
  have hm := h.mem
  refine LCg.Off3.of fun x hx => ?_
  rcases List.mem_append.mp hx with hx | hx
  · exact hm x (List.mem_append_left _ hx)
  · simp only [List.mem_cons, List.not_mem_nil, or_false] at hx
    rcases hx with rfl | rfl | rfl | rfl
    · exact hm (54, tabObj p) (List.mem_append_right _ (.head _))
    · exact ⟨Ne.symm a5.1, Ne.symm a5.2.1, Ne.symm a5.2.2⟩
    · exact hm (61, tabObj q) (List.mem_append_right _ (.tail _ (.tail _ (.head _))))
    · exact ⟨Ne.symm a6.1, Ne.symm a6.2.1, Ne.symm a6.2.2⟩
theorem AllNe.mem {c : Addr} {l : List (Addr × Obj)} (h : AllNe c l) : ∀ p ∈ l, p.1 ≠ c := by
  induction l with
  | nil => intro p hp; cases hp
  | cons x r ih =>
    intro p hp
    rcases List.mem_cons.mp hp with rfl | hp
    · exact h.1
    · exact ih h.2 p hp
theorem heads_ne {own tl : List (Addr × Obj)} {I C D a : Addr} {oI oC oD oa : Obj} (hm : LCg.Off3 I C D (own ++ tl)) (h : ∀ p ∈ own, p.1 ≠ a) (ha : (a, oa) ∈ tl) : ∀ p ∈ (I, oI) :: (C, oC) :: (D, oD) :: own, p.1 ≠ a := by
  have z := hm.mem (a, oa) (List.mem_append_right _ ha)
  intro p hp
  rcases List.mem_cons.mp hp with rfl | hp
  · exact Ne.symm z.1
  · rcases List.mem_cons.mp hp with rfl | hp
    · exact Ne.symm z.2.1
    · rcases List.mem_cons.mp hp with rfl | hp
      · exact Ne.symm z.2.2
      · exact h p hp
-- two lists of the same texts
inductive TextsAre : List Value → List Str → Prop
  | nil : TextsAre [] []
  | cons (x : Str) (t : Tok) {vs xs} : TextsAre vs xs → TextsAre (.str x t :: vs) (x :: xs)
theorem readsAll_texts {h : Heap} {vs : List Value} {xs : List Str} (T : TextsAre vs xs) : ReadsAll h vs (xs.map PyData.str) [] := by
  induction T with
  | nil => exact .nil
  | cons x t _ ih =>
    have := ReadsAll.cons (Reads.str (h := h) x t) ih
    simpa using this
theorem canLayAll_texts : ∀ xs : List Str, (∀ x ∈ xs, PyData.strOk x = true) → PyData.canLayAll0 (xs.map PyData.str) = true
  | [], _ => by simp [PyData.canLayAll0]
  | x :: r, h => by
    have ih := canLayAll_texts r fun y hy => h y (.tail _ hy)
    simp [PyData.canLayAll0, PyData.canLay0, ih, h x (.head _)]
theorem depthAll_texts : ∀ xs : List Str, PyData.depthAll (xs.map PyData.str) = 0
  | [] => rfl
  | _ :: r => by simp [PyData.depthAll, PyData.depth, depthAll_texts r]
theorem shaped_texts (xs : List Str) (h : ∀ x ∈ xs, PyData.strOk x = true) : SeqAt.shaped (.list (xs.map PyData.str)) = true := by
  simp [SeqAt.shaped, PyData.canLay0, PyData.depth, canLayAll_texts xs h, depthAll_texts]
theorem same_texts : ∀ xs : List Str, PySem.Spec.sameAll (xs.map PyData.str) (xs.map PyData.str) = true
  | [] => by simp [PySem.Spec.sameAll]
  | x :: r => by simp [PySem.Spec.sameAll, PySem.Spec.same, same_texts r]
theorem noMix_texts : ∀ xs : List Str, SeqAt.noMixAll (xs.map PyData.str) (xs.map PyData.str) = true
  | [] => by simp [SeqAt.noMixAll]
  | x :: r => by simp [SeqAt.noMixAll, SeqAt.noMix, noMix_texts r]
theorem ne_texts {prog : Program} {w : World} {A : Around} {E : Value → Shared → Prop} {s : Shared} {a b : Addr} {vs us : List Value} {xs : List Str} {Q : Value → Shared → Prop}
    (hl : s.heap.IsList a vs.toArray) (hi : TextsAre vs xs) (hl' : s.heap.IsList b us.toArray) (hi' : TextsAre us xs) (hs : ∀ x ∈ xs, PyData.strOk x = true) (hu : A.units + 64 < cLine)
    (h : Q (.bool false) s) : wpAny (model prog w) A (compareOp .NotEq (.ref a) (.ref b)) Q E s := by
  have r1 : Reads s.heap (.ref a) (.list (xs.map PyData.str)) [a] := by
    obtain ⟨o, ho, hc, n, hd⟩ := hl
    exact Reads.list ho hc hd (by simpa using readsAll_texts hi)
  have r2 : Reads s.heap (.ref b) (.list (xs.map PyData.str)) [b] := by
    obtain ⟨o, ho, hc, n, hd⟩ := hl'
    exact Reads.list ho hc hd (by simpa using readsAll_texts hi')
  refine ne_dataH_same r1 r2 (shaped_texts xs hs) (shaped_texts xs hs) hu (by simp only [SeqAt.noMix]; exact noMix_texts xs) ?_
  simp only [PySem.Spec.same]
  rw [same_texts]
  exact h
theorem texts_of_rel : ∀ (ys : List Value) (g : Nat → Str), (∀ i v, ys[i]? = some v → ∃ t, v = Value.str (g i) t) → TextsAre ys ((List.range ys.length).map g)
  | [], _, _ => .nil
  | v :: r, g, h => by
    obtain ⟨t, e⟩ := h 0 v rfl
    rw [e, List.length_cons, List.range_succ_eq_map, List.map_cons, List.map_map]
    exact .cons _ _ (texts_of_rel r (g ∘ Nat.succ) fun i x hx => h (i + 1) x (by simpa using hx))
theorem ints_of_rel : ∀ (ys : List Value) (g : Nat → Int), (∀ i v, ys[i]? = some v → ∃ t, v = Value.int (g i) t) → IntsAre ys ((List.range ys.length).map g)
  | [], _, _ => .nil
  | v :: r, g, h => by
    obtain ⟨t, e⟩ := h 0 v rfl
    rw [e, List.length_cons, List.range_succ_eq_map, List.map_cons, List.map_map]
    exact .cons _ _ (ints_of_rel r (g ∘ Nat.succ) fun i x hx => h (i + 1) x (by simpa using hx))
theorem str_ok {l : List Nat} (h : ∀ c ∈ l, Letter c) : PyData.strOk ⟨l.toArray⟩ = true := by
  unfold PyData.strOk
  rw [List.all_toArray, List.all_eq_true]
  intro c hc
  have := (h c hc).1
  exact decide_eq_true (by omega)
theorem off1_mem {D : Addr} {l : List (Addr × Obj)} (h : LCg.Off1 D l) : ∀ p ∈ l, @Ne Nat p.1 D := by
  induction l with
  | nil => intro p hp; cases hp
  | cons x r ih =>
    intro p hp
    rcases List.mem_cons.mp hp with rfl | hp
    · exact h.1
    · exact ih h.2 p hp
theorem off1_tl {own : List (Addr × Obj)} {D c5 c6 : Addr} {p q : Array Value} {o5 o6 : Obj} (h : LCg.Off1 D (own ++ tl4 p c5 o5 q c6 o6)) : (@Ne Nat D 54) ∧ (@Ne Nat D c5) ∧ (@Ne Nat D 61) ∧ (@Ne Nat D c6) := by
  have hm := off1_mem h
  exact ⟨Ne.symm (hm (54, tabObj p) (List.mem_append_right _ (.head _))), Ne.symm (hm (c5, o5) (List.mem_append_right _ (.tail _ (.head _)))),
    Ne.symm (hm (61, tabObj q) (List.mem_append_right _ (.tail _ (.tail _ (.head _))))), Ne.symm (hm (c6, o6) (List.mem_append_right _ (.tail _ (.tail _ (.tail _ (.head _))))))⟩
theorem ne_cons {a D : Addr} {o : Obj} {own : List (Addr × Obj)} (hD : @Ne Nat D a) (h : ∀ p ∈ own, p.1 ≠ a) : ∀ p ∈ (D, o) :: own, p.1 ≠ a := fun p hp => by
  rcases List.mem_cons.mp hp with rfl | hp
  · exact hD
  · exact h p hp
theorem rot_ok {Tx : List Nat} (h : ∀ c ∈ Tx, Letter c) : ∀ x ∈ (List.range 8).map (fun i : Nat => (⟨(rotL Tx (i : Int)).toArray⟩ : Str)), PyData.strOk x = true := fun x hx => by
  obtain ⟨i, _, rfl⟩ := List.mem_map.mp hx
  refine str_ok fun c hc => h c ?_
  unfold rotL at hc
  rcases List.mem_append.mp hc with q | q
  · exact List.mem_of_mem_drop q
  · exact List.mem_of_mem_take q
theorem news_tail {g h : Heap} {L : Addr} {x : Addr × Obj} {news : List (Addr × Obj)} (N : News g L h (x :: news)) : News g L h news := fun p hp => N p (.tail _ hp)
theorem ints_of_rel2' : ∀ (ys : List Value) (xs : List Int) (f : Int → Int), ys.length = xs.length → (∀ (i : Nat) v, ys[i]? = some v → ∃ k t, xs[i]? = some k ∧ v = Value.int (f k) t) → IntsAre ys (xs.map f)
  | [], [], _, _, _ => .nil
  | v :: r, x :: q, f, hl, h => by
    obtain ⟨k, t, e1, e2⟩ := h 0 v rfl
    obtain rfl : x = k := by simpa using e1
    rw [e2]
    exact .cons _ _ (ints_of_rel2' r q f (by simpa using hl) fun i u hu => h (i + 1) u (by simpa using hu))
section
open LCg LCt
variable {prog : Program} {w : World} {A : Around} {h₀ : Heap} {L : Addr} {m : Str → Option Value} {env : Env} {ct elt : Expr} {x : Str} {scope : Scope} {cl : List (Str × Addr)} {s : Shared} {S : List (Addr × Obj) → Prop} {Fin : List Value → List (Addr × Obj) → Prop} {news : List (Addr × Obj)}
-- [f v for v in ints], the ledger as it was
theorem comp_mapF {vs : List Value} {xs : List Int} (f : Int → Int) (hi : IntsAre vs xs)
    (turn : ∀ (k : Int) t I oI C oC D m₂ ys h tk (E' : Value → Shared → Prop), NsObj oC m₂ → m₂ x = some (.int k t) → Fr h₀ L h m → News h₀ L h ((I, oI) :: (C, oC) :: (D, lst ys) :: news) → Off3 I C D news → ((@Ne Nat I C) ∧ (@Ne Nat I D) ∧ (@Ne Nat C D)) →
      wpAny (model prog w) A (eval elt (compEnvC scope cl C env)) (CompEnd h₀ L m { s with heap := h, toks := tk } I oI C oC D (lst ys) S (fun y nw' => nw' = news ∧ ∃ t', y = .int (f k) t')) E' { s with heap := h, toks := tk })
    (fin : ∀ ys, IntsAre ys (xs.map f) → Fin ys news) : CompRest prog w A h₀ L m env elt x scope cl s S (fun i v => vs.toArray[i]? = some v) Fin vs.toArray.size 0 [] news := by
  refine comp_map (fun nw => nw = news) (fun i y => ∃ k t, xs[i]? = some k ∧ y = .int (f k) t) ?_ rfl ?_
  · rintro i v I oI C oC D m₂ ys nw h tk E' hi8 hP rfl hC hx F N off ne
    obtain ⟨k, t, rfl, hk⟩ := IntsAre.at hi i v (by simpa using hP)
    refine wpAny_mono (turn k t I oI C oC D m₂ ys h tk E' hC hx F N off ne) (fun y s₃ hr => ?_) fun _ _ e => e
    obtain ⟨h', tk', nw', e, F', N', off', hS, r1, t', r2⟩ := hr
    exact ⟨h', tk', nw', e, F', N', off', hS, r1, k, t', hk, r2⟩
  · rintro ys nw rfl hl hy
    exact fin ys (ints_of_rel2' ys xs f (by rw [hl, List.size_toArray]; exact hi.length) hy)
end

-- list(b) of bytes
namespace LBy
open PySem
theorem len_look : typeLookup (.type "bytes") "__len__" = pure (some (.builtin "bytes.__len__")) := by rw [typeLookup_type, builtinLookup_eq_fast]; kernel_rfl
section
variable {prog : Program} {w : World} {A : Around} {E : Value → Shared → Prop} {s : Shared} {b : Array UInt8} {t : Tok}
theorem hint_bytes {Q : Bool → Shared → Prop} (h : Q false s) : wpAny (model prog w) A (Builtin.List.listLengthHint (.bytes b t)) Q E s := by
  unfold Builtin.List.listLengthHint
  refine wpAny_bind (wpAny_specialOf (T := "bytes") (v := .bytes b t) rfl len_look ?_)
  generalize hid : ("bytes.__len__" : String) = id0
  wp_delta
  rw [show splitId id0 = some ("bytes", "__len__") from by subst hid; decide +kernel]
  subst hid
  refine wpAny_bind (wpAny_isInstance (T := "bytes") (v := .bytes b t) (b := true) rfl (by rw [isSubtype_type]; kernel_rfl) ?_)
  refine wpAny_ite_split (fun hab => absurd hab (by decide)) (fun _ => ?_)
  refine wpAny_ite_split (fun _ => ?_) (fun hab => absurd (by decide +kernel) hab)
  refine wpAny_bind (wpAny_typeOf (T := "bytes") (v := .bytes b t) rfl ?_)
  exact wpAny_pure h
abbrev ByteAt (b : Array UInt8) (i : Nat) (v : Value) : Prop := ∃ c u, b[i]? = some c ∧ v = .int (c.toNat : Int) u
theorem extend_bytes {R : Result → Shared → Prop} (hh : A.handled = none) (S : Addr) (res : Value) (c₀ : Nat) (hS : s.heap.get? S = some { cls := .type "list", data := .seq #[] c₀ })
    (hR : ∀ h' tk acc' c', (∀ b o, b ≠ S → s.heap.get? b = some o → h'.get? b = some o) → h'.get? S = some { cls := .type "list", dict := none, data := .seq acc' c', slots := #[] } →
      ItemsOf (ByteAt b) acc' b.size → R (.ok (.ret res)) { s with heap := h', toks := tk }) (hn : b.size ≤ sizeLine) :
    wpAny (model prog w) A.in1 (Builtin.List.listExtendWith (.ref S) (.bytes b t) res)
      (fun fin s' => match fin with | .done f => R (.ok f) s' | .again c' => c'.quiet = true ∧ codeAny (model prog w) A c' R s') (fun e s' => R (.error e) s') s := by
  have hSI : S ≠ s.heap.objs.size := Nat.ne_of_lt (Heap.lt_size hS)
  have hSf : S ∉ [s.heap.objs.size] := fun hm => hSI (List.mem_singleton.mp hm)
  unfold Builtin.List.listExtendWith
  refine wpAny_bind (wpAny_typeOf (T := "bytes") (v := .bytes b t) rfl ?_)
  have h1 : Builtin.List.listSameRef (.ref S) (.bytes b t) = false := rfl
  have h2 : (Value.type "bytes" == Value.type "list") = false := by decide
  have h3 : (Value.type "bytes" == Value.type "tuple") = false := by decide
  simp only [h1, h2, h3, Bool.or_false, Bool.false_eq_true, if_false]
  refine wpAny_bind (KBw.pyIter_bytes ?_)
  refine wpAny_bind (wpAny_holding ?_)
  refine hint_bytes ?_
  rw [if_neg (by decide)]
  have hst : KBw.IsBytesIter (s.heap.push { cls := .type "bytes_iterator", data := .fields #[.bytes b t, .int 0 0] }) s.heap.objs.size b t 0 := ⟨_, Heap.get?_push_size _ rfl, rfl, rfl⟩
  refine wpAny_pure ⟨plainId_quiet F.plain_extend_loop _, codeAny_extend_loopS (KBw.walks (A := A.in1) hh s.heap.objs.size b t).toS hn _ hSf _ b.size 0 _ _ _ rfl (Nat.zero_le _) hst (Heap.get?_push_of_some _ hS) (ItemsOf.nil _) fun s' acc' c' hm hS' hacc => ?_⟩
  rw [Moved.eq_with hm]
  refine hR s'.heap s'.toks acc' c' (fun b ob hb e => hm.heap b ob (fun hmem => ?_) (Heap.get?_push_of_some _ e)) hS' hacc
  rcases List.mem_cons.mp hmem with e' | hmem
  · exact hb e'
  · exact absurd (Heap.lt_size e) (by rw [List.mem_singleton.mp hmem]; exact Nat.lt_irrefl _)
theorem init_bytes {R : Result → Shared → Prop} (hh : A.handled = none) (S : Addr) (hS : s.heap.get? S = some { cls := .type "list", data := .seq #[] })
    (hR : ∀ h' tk acc' c', (∀ b o, b ≠ S → s.heap.get? b = some o → h'.get? b = some o) → h'.get? S = some { cls := .type "list", dict := none, data := .seq acc' c', slots := #[] } →
      ItemsOf (ByteAt b) acc' b.size → R (.ok (.ret .none)) { s with heap := h', toks := tk }) (hn : b.size ≤ sizeLine) :
    wpAny (model prog w) A.in1 (Builtin.«list.__init__» ⟨[.ref S, .bytes b t], []⟩)
      (fun fin s' => match fin with | .done f => R (.ok f) s' | .again c' => c'.quiet = true ∧ codeAny (model prog w) A c' R s') (fun e s' => R (.error e) s') s := by
  show wpAny _ _ (do let old ← Builtin.List.listItems (.ref S); Builtin.List.listUpdate (.ref S) (fun _ => #[]); letGo old.toList.reverse; Builtin.List.listExtendWith (.ref S) (.bytes b t) .none) _ _ s
  refine wpAny_bind ?_
  unfold Builtin.List.listItems
  refine wpAny_bind (wpAny_seqItems hS rfl (wpAny_pure ?_))
  show wpAny _ _ (updateSeq S (fun _ => #[]) >>= fun _ => letGo (#[] : Array Value).toList.reverse >>= fun _ => Builtin.List.listExtendWith (.ref S) (.bytes b t) .none) _ _ s
  refine wpAny_bind (wpAny_updateSeq hS rfl ?_)
  have hS₂ := Heap.get?_update_self (Obj.mapSeq (fun _ => (#[] : Array Value))) hS rfl
  have oth : ∀ b o, b ≠ S → s.heap.get? b = some o → (s.heap.update S (Obj.mapSeq (fun _ => (#[] : Array Value)))).get? b = some o :=
    fun b o hb e => (Heap.get?_update_other _ _ (Ne.symm hb)).trans e
  refine wpAny_bind (wpAny_letGo ?_)
  refine extend_bytes (hn := hn) hh S .none _ hS₂ fun h' tk acc' c' hk hS' hacc => ?_
  exact hR h' tk acc' c' (fun b o hb e => hk b o hb (oth b o hb e)) hS' hacc
theorem call_list_bytes {Q : Value → Shared → Prop} (hh : A.handled = none)
    (hQ : ∀ h' tk acc' c', (∀ b o, s.heap.get? b = some o → h'.get? b = some o) →
      h'.get? s.heap.objs.size = some { cls := .type "list", dict := none, data := .seq acc' c', slots := #[] } → ItemsOf (ByteAt b) acc' b.size → Q (.ref s.heap.objs.size) { s with heap := h', toks := tk }) (hn : b.size ≤ sizeLine) :
    wpAny (model prog w) A (call (.type "list") [.bytes b t]) Q E s := by
  refine callType_codes (Q₁ := fun obj s₁ => obj = .ref s.heap.objs.size ∧ s₁ = { s with heap := s.heap.push { cls := .type "list", data := .seq #[] } }) F.called_list (F.typeCall_list_1 _) F.entry_list_init
    (code_list_new _ ⟨rfl, rfl⟩) fun obj s₁ h₁ => ?_
  obtain ⟨rfl, rfl⟩ := h₁
  have hS : (s.heap.push { cls := .type "list", data := .seq #[] }).get? s.heap.objs.size = some { cls := .type "list", data := .seq #[] } := Heap.get?_push_size _ rfl
  refine ⟨⟨_, hS, rfl⟩, F.args_list_init_2 _ _, init_bytes (A := A.in1) (hn := hn) hh _ hS fun h' tk acc' c' hk hS' hacc => ?_⟩
  exact ⟨rfl, hQ h' tk acc' c' (fun b o e => hk b o (Nat.ne_of_lt (Heap.lt_size e)) (Heap.get?_push_of_some _ e)) hS' hacc⟩
end
end LBy
theorem list_bytesK {prog : Program} {w : World} {A : Around} {E : Value → Shared → Prop} {s : Shared} {h₀ : Heap} {L : Addr} {m : Str → Option Value} {news : List (Addr × Obj)} {Q : Value → Shared → Prop} {ns : List Int} {t : Tok}
    (hh : A.handled = none) (F : Fr h₀ L s.heap m) (N : News h₀ L s.heap news) (hr : KBa.In ns) (hn : ns.length ≤ 1000)
    (h : ∀ D c h' tk vs, Fr h₀ L h' m → News h₀ L h' ((D, listOf vs.toArray c) :: news) → (∀ q ∈ news, q.1 < D) → IntsAre vs ns → Q (.ref D) { s with heap := h', toks := tk }) :
    wpAny (model prog w) A (call (.type "list") [.bytes (byteArr ns) t]) Q E s := by
  have hsz : (byteArr ns).size = ns.length := by unfold byteArr; simp
  refine LBy.call_list_bytes hh (fun h' tk acc' c' hk hS' hacc => ?_) (by rw [hsz, sizeLine_eq]; omega)
  refine h _ c' h' tk acc'.toList (F.keeps hk) (news_pushed F N hk (by rw [Array.toArray_toList]; exact hS') rfl) (fun q hq => Heap.lt_size (N q hq).1) ?_
  have key := ints_of_rel2' acc'.toList ns id (by rw [Array.length_toList, hacc.1, hsz]) fun i v hv => ?_
  · simpa using key
  · obtain ⟨c, u, hc, rfl⟩ := hacc.2 i v (by rw [← Array.getElem?_toList]; exact hv)
    unfold byteArr at hc
    simp only [List.getElem?_toArray, List.getElem?_map, Option.map_eq_some_iff] at hc
    obtain ⟨k, hk1, rfl⟩ := hc
    refine ⟨k, u, hk1, ?_⟩
    have hb := hr k (List.mem_of_getElem? hk1)
    have e : (k.toNat.toUInt8.toNat : Int) = k := by
      have : k.toNat < 256 := by omega
      simp
      omega
    rw [e]
    rfl

--{
local macro_rules | `(tactic| walk_at "call ref") => `(tactic| (k_here; (with_reducible show wpAny _ _ (call (Value.ref _) _ _) _ _ _); refine StopHere.go ?_))
local macro_rules | `(tactic| walk_at "exec Assign cons ListComp") => `(tactic| (k_here; refine StopHere.go ?_))
local macro_rules | `(tactic| walk_at "eval ListComp") => `(tactic| (k_here; refine StopHere.go ?_))
local macro_rules | `(tactic| walk_at "CompSrcT") => `(tactic| (k_here; refine StopHere.go ?_))
local macro_rules | `(tactic| walk_at "CompSrc") => `(tactic| (k_here; refine StopHere.go ?_))
local macro_rules | `(tactic| walk_at "CompEnd") => `(tactic| (refine StopHere.go ?_))
local macro_rules | `(tactic| walk_at "compareOp NotEq ref ref") => `(tactic| (k_here; refine StopHere.go ?_))
local macro_rules | `(tactic| walk_at "binaryOp Mult str int") => `(tactic| (first | (refine mul_mk (by omega) (by omega) ?_) | (refine mul_tw (by assumption) ?_)); intro _ _)
local macro_rules | `(tactic| walk_at "binaryOp Add str str") => `(tactic| (first
  | ((with_reducible show wpAny _ _ (binaryOp Operator.Add (Value.str (Str.ofString "*") _) _) _ _ _); (refine star_add (by (try simp only [List.length_append, List.length_replicate]); omega) ?_))
  | ((with_reducible show wpAny _ _ (binaryOp Operator.Add _ (Value.str (Str.ofString "*") _)) _ _ _); (refine add_star (by (try simp only [List.length_append, List.length_replicate, List.length_cons, List.length_nil]); omega) ?_))
  | (refine add_l (by simp only [List.length_append, List.length_drop, List.length_take, List.length_cons, List.length_nil, List.length_replicate]; omega) ?_)); intro _ _)
--}
section LD
section
variable {w : World} {A : Around} {s : Shared} {E : Value → Shared → Prop} {Q : Flow → Shared → Prop} {p : Program} {loose : List Str} {mean : ExcName → Option Value} {mg mb : Str → Option Value}
set_option maxHeartbeats 1600000 in
theorem lawD {G0 : Heap} {L fa tA : Addr} {cd : Value} {m₀ : Str → Option Value} {tvs : List Value} {te : Nat} {oR oS oF oO oT o5 o6 : Obj} {ps qs : Array Value} {c5 c6 : Addr} {Tx Ox : List Nat} {t1 t2 : Tok}
    (X' : (hd.heap_39 w.params).In G0) (T' : Top p loose mean mg mb G0) (hh : A.handled = none) (hdp : A.depth ≤ 310) (hun : A.units ≤ 4000)
    (hT : Tx.length = 8) (hTL : ∀ c ∈ Tx, Letter c) (hO : Ox.length = 8) (hOL : ∀ c ∈ Ox, Letter c)
    (F' : Fr G0 L s.heap (fun y => if y = Str.ofString "turns" then some (.ref tA) else m₀ y))
    (N' : News G0 L s.heap [(tA, listOf tvs.toArray te), (L + 1 + 1 + 1 + 1 + 1, oR), (L + 1 + 1 + 1 + 1, oS), (L + 1 + 1 + 1, oF), (L + 1 + 1, oO), (L + 1, oT), (180, tabObj #[]), (54, tabObj ps), (c5, o5), (61, tabObj qs), (c6, o6)])
    (dO : oO.data = .cell (some (.str ⟨Ox.toArray⟩ t1))) (dT : oT.data = .cell (some (.str ⟨Tx.toArray⟩ t2)))
    (hi : IntsAre tvs ((rangeKs 0 8).filter fun k => decide (rotL Tx k = Ox)))
    (hQ : ∀ h' tk m', Fr G0 L h' m' → GrownAt 180 h' → GrownAt 61 h' → GrownAt 54 h' → Q (.ret (.bool true)) { s with heap := h', toks := tk }) :
    wpAny (model PySem.Challenge.rw_ku0026_01.row.prog w) (A.deeper (envOfC (Str.ofString "law") (stScope law1) L fa cd)) (execs ((stBody law1).drop 11) (envOfC (Str.ofString "law") (stScope law1) L fa cd)) Q E s := by
  obtain ⟨hd, dp, fr, gd, un⟩ := A
  dsimp only at hh hdp hun
  subst hh
  have hO0 : Ox ≠ [] := by rintro rfl; cases hO
  (rename Frag.In _ _ => X'; revert X'; k_fill; intro X')
  rename Frag.In _ G0 => X'
  conv in (occs := *) (stScope law1) => all_goals whnf
  conv in (List.drop _ _) => whnf
  (try dsimp only)
  k_unmd
  (try k_fold)
  k_steps
  unfold StopHere
  rename Fr _ _ _ _ => F4
  rename News _ _ _ _ => N4
  refine LCt.ListComp_T (F₀ := F4) (by with_unfolding_all rfl) (by decide) (by rfl) (by decide) (by rfl) ?_
  k_steps
  unfold StopHere
  rename Fr _ _ _ _ => F4
  rename News _ _ _ _ => N4
  refine LCt.CompSrcT.range (n := 8) (by rfl) F4 N4 (by assumption) (by decide) (by rfl) (by decide) ?_
  intro g'
  clear F4 N4
  refine comp_filter (fun nw => nw = [(tA, listOf tvs.toArray te), (L + 1 + 1 + 1 + 1 + 1, oR), (L + 1 + 1 + 1 + 1, oS), (L + 1 + 1 + 1, oF), (L + 1 + 1, oO), (L + 1, oT), (180, tabObj #[]), (54, tabObj ps), (c5, o5), (61, tabObj qs), (c6, o6)]) (fun k => decide (rotL Tx k = Ox)) ?_ rfl ?_
  · intro i ti I oI C oC D m₂ ys nw h tk E' hi8 hW hC hx F5 N5 off ne
    subst hW
    k_steps
    unfold StopHere
    rename Fr _ _ _ _ => F6
    rename News _ _ _ _ => N6
    refine c_translate (by simp only [List.length_append, List.length_replicate, List.length_cons, List.length_nil]; omega) (pat_marks hOL hO0) rfl (le_up hdp (by decide) : dp + 1 ≤ 470) (X'.keeps F6.keep) (T'.keeps F6.keep) ?_
    intro Dp pvs pn h1 tk1 st1 dn1 dg1 hpv
    have pl1 := allNe_of dn1 N6
    simp only [AllNe, and_true] at pl1
    have F7 := F6.keeps st1
    have N7 := news_new F6 dn1 dg1 (N6.grown st1)
    clear F6 N6
    k_steps
    unfold StopHere
    rename Fr _ _ _ _ => F6
    rename News _ _ _ _ => N6
    refine c_law_takes (pat_marks hOL hO0) (by simpa using hTL) (by rw [List.length_append]; omega) hpv (by simp only [List.length_append, List.length_replicate, List.length_cons, List.length_nil]; omega) rfl (le_up hdp (by decide) : dp + 1 ≤ 470) (X'.keeps F6.keep) (T'.keeps F6.keep) (N6 (Dp, _) (by k_mem)).1 ?_
    intro h2 tk2 st2
    have F8 := F6.keeps st2
    have N8 := N6.grown st2
    clear F6 N6
    rw [Int.toNat_natCast, takes_marks8 hT hO hi8 fun c hc => let_pat (hOL c hc)]
    k_steps
    · unfold StopHere
      exact LCg.CompEnd.intro F8 N8 _ (fun p hp => .tail _ hp) off trivial ⟨rfl, decide_eq_true (by assumption), _, rfl⟩
    · unfold StopHere
      exact LCg.CompEnd.intro F8 N8 _ (fun p hp => .tail _ hp) off trivial ⟨rfl, decide_eq_false (by assumption)⟩
  · intro ys nw hW hys
    subst hW
    intro D2 h3 tk3 F6 N6 off1
    simp only [LCg.Off1, and_true] at off1
    k_steps
    unfold StopHere
    rename Fr _ _ _ _ => F6
    rename News _ _ _ _ => N6
    refine ne_intsK (isList_news N6 (by k_mem)) hys (isList_news N6 (by k_mem)) hi (by (show un + 3 + 64 < cLine); simp only [cLine]; omega) ?_
    rw [decide_eq_true rfl, Bool.not_true]
    k_steps
    unfold StopHere
    rename Fr _ _ _ _ => F6
    rename News _ _ _ _ => N6
    refine c_translate (by simp only [List.length_append, List.length_cons, List.length_nil]; omega) (pat_star hOL hO0) rfl (le_up hdp (by decide) : dp + 1 ≤ 470) (X'.keeps F6.keep) (T'.keeps F6.keep) ?_
    intro Dp pvs pn h1 tk1 st1 dn1 dg1 hpv
    have pl1 := allNe_of dn1 N6
    simp only [AllNe, and_true] at pl1
    have F7 := F6.keeps st1
    have N7 := news_new F6 dn1 dg1 (N6.grown st1)
    clear F6 N6
    k_steps
    unfold StopHere
    rename Fr _ _ _ _ => F6
    rename News _ _ _ _ => N6
    refine c_law_takes (pat_star hOL hO0) (by simpa using hTL) (by rw [List.length_append]; omega) hpv (by simp only [List.length_append, List.length_cons, List.length_nil]; omega) rfl (le_up hdp (by decide) : dp + 1 ≤ 470) (X'.keeps F6.keep) (T'.keeps F6.keep) (N6 (Dp, _) (by k_mem)).1 ?_
    intro h2 tk2 st2
    have F8 := F6.keeps st2
    have N8 := N6.grown st2
    clear F6 N6
    have hend := takes_star8 hT hO fun c hc => let_pat (hOL c hc)
    generalize takesL (Tx ++ Tx) ([42] ++ Ox ++ [42]) = b0 at hend ⊢
    k_steps
    unfold StopHere
    rename Fr _ _ _ _ => F6
    rename News _ _ _ _ => N6
    refine ne_intsK (isList_news N6 (by k_mem)) hi (isList_news N6 (by k_mem)) .nil (by (show un + 3 + 64 < cLine); simp only [cLine]; omega) ?_
    have hb : b0 = !decide ((rangeKs 0 8).filter (fun k => decide (rotL Tx k = Ox)) = []) := turns_any hend
    rw [← hb]
    k_steps
    rename Fr _ _ _ _ => F6
    rename News _ _ _ _ => N6
    rw [beq_self_eq_true]
    exact hQ _ _ _ F6 (.of N6 (by k_mem)) (.of N6 (by k_mem)) (.of N6 (by k_mem))
end
end LD

--{
local macro_rules | `(tactic| walk_at "binaryOp Pow int int") => `(tactic| (refine pow64 (by omega) (by omega) ?_; intro _ _))
local macro_rules | `(tactic| walk_at "binaryOp Mult int int") => `(tactic| (refine mulK (by assumption) (by assumption) ?_; intro _ _))
local macro_rules | `(tactic| walk_at "compareOp Eq str str") => `(tactic| (refine eq_l ?_))
--}
section LC
section
variable {w : World} {A : Around} {s : Shared} {E : Value → Shared → Prop} {Q : Flow → Shared → Prop} {p : Program} {loose : List Str} {mean : ExcName → Option Value} {mg mb : Str → Option Value}
abbrev lawLed (D : Addr) (ys : List Value) (L : Addr) (oR oS oF oO oT : Obj) : List (Addr × Obj) := [(D, LCg.lst ys), (L + 1 + 1 + 1 + 1 + 1, oR), (L + 1 + 1 + 1 + 1, oS), (L + 1 + 1 + 1, oF), (L + 1 + 1, oO), (L + 1, oT), (180, tabObj #[])]
set_option maxHeartbeats 1600000 in
theorem lawC {G0 : Heap} {L fa : Addr} {cd : Value} {m₀ : Str → Option Value} {oR oS oF oO oT o5 o6 : Obj} {ps qs : Array Value} {c5 c6 : Addr} {Tx Ox : List Nat} {t1 t2 t3 t4 t5 : Tok} {F1 S2 : Int}
    (X' : (hd.heap_39 w.params).In G0) (T' : Top p loose mean mg mb G0) (C58 : CodeHd G0 58 54) (C65 : CodeHd G0 65 61) (hh : A.handled = none) (hdp : A.depth ≤ 310) (hun : A.units ≤ 4000)
    (l180 : @LT.lt Nat _ 180 L) (hT : Tx.length = 8) (hTL : ∀ c ∈ Tx, Letter c) (hO : Ox.length = 8) (hOL : ∀ c ∈ Ox, Letter c)
    (hF0 : 0 ≤ F1) (hF1 : F1 < 281474976710656) (hS0 : 0 ≤ S2) (hS1 : S2 < 281474976710656)
    (hturn : ∀ k : Nat, k < 8 → ((F1 * ((64 ^ k : Nat) : Int) - S2) % RING = 0 ↔ rotL Tx (k : Int) = Ox))
    (F' : Fr G0 L s.heap m₀)
    (N' : News G0 L s.heap [(L + 1 + 1 + 1 + 1 + 1, oR), (L + 1 + 1 + 1 + 1, oS), (L + 1 + 1 + 1, oF), (L + 1 + 1, oO), (L + 1, oT), (180, tabObj #[]), (54, tabObj ps), (c5, o5), (61, tabObj qs), (c6, o6)])
    (TL : T4 G0 G0 ps c5 o5 qs c6 o6) (a5 : AllNe c5 [(L + 1 + 1 + 1 + 1 + 1, oR), (L + 1 + 1 + 1 + 1, oS), (L + 1 + 1 + 1, oF), (L + 1 + 1, oO), (L + 1, oT), (180, tabObj #[])]) (a6 : AllNe c6 [(L + 1 + 1 + 1 + 1 + 1, oR), (L + 1 + 1 + 1 + 1, oS), (L + 1 + 1 + 1, oF), (L + 1 + 1, oO), (L + 1, oT), (180, tabObj #[])])
    (dR : oR.data = .cell (some (.int RING t3))) (dS : oS.data = .cell (some (.int S2 t4))) (dF : oF.data = .cell (some (.int F1 t5)))
    (dO : oO.data = .cell (some (.str ⟨Ox.toArray⟩ t1))) (dT : oT.data = .cell (some (.str ⟨Tx.toArray⟩ t2)))
    (hQ : ∀ h' tk m', Fr G0 L h' m' → GrownAt 180 h' → GrownAt 61 h' → GrownAt 54 h' → Q (.ret (.bool true)) { s with heap := h', toks := tk }) :
    wpAny (model PySem.Challenge.rw_ku0026_01.row.prog w) (A.deeper (envOfC (Str.ofString "law") (stScope law1) L fa cd)) (execs ((stBody law1).drop 9) (envOfC (Str.ofString "law") (stScope law1) L fa cd)) Q E s := by
  obtain ⟨hd, dp, fr, gd, un⟩ := A
  dsimp only at hh hdp hun
  subst hh
  (rename Frag.In _ _ => X'; revert X'; k_fill; intro X')
  rename Frag.In _ G0 => X'
  conv in (occs := *) (stScope law1) => all_goals whnf
  conv in (List.drop _ _) => whnf
  (try dsimp only)
  k_unmd
  have z5 := a5
  have z6 := a6
  simp only [AllNe, and_true] at a5 a6
  k_steps
  unfold StopHere
  rename Fr _ _ _ _ => F4
  rename News _ _ _ _ => N4
  refine LCt.Assign_ListComp_T (F₀ := F4) (by rfl) (by with_unfolding_all rfl) (by with_unfolding_all rfl) (by decide) (by rfl) (by decide) (by rfl) (by rfl) (by rfl) ?_
  k_steps
  unfold StopHere
  rename Fr _ _ _ _ => F4
  rename News _ _ _ _ => N4
  refine LCt.CompSrcT.range (n := 8) (by rfl) F4 N4 (by assumption) (by decide) (by rfl) (by decide) ?_
  intro g'
  clear F4 N4
  refine comp_filter (fun nw => nw = [(L + 1 + 1 + 1 + 1 + 1, oR), (L + 1 + 1 + 1 + 1, oS), (L + 1 + 1 + 1, oF), (L + 1 + 1, oO), (L + 1, oT), (180, tabObj #[]), (54, tabObj ps), (c5, o5), (61, tabObj qs), (c6, o6)]) (fun k => decide (rotL Tx k = Ox)) ?_ rfl ?_
  · intro i ti I oI C oC D m₂ ys nw h tk E' hi8 hW hC hx F5 N5 off ne
    subst hW
    k_steps
    · unfold StopHere
      rename Fr _ _ _ _ => F6
      rename News _ _ _ _ => N6
      exact LCg.CompEnd.intro F6 N6 _ (fun p hp => hp) off trivial ⟨rfl, decide_eq_true (by assumption), _, rfl⟩
    · unfold StopHere
      rename Fr _ _ _ _ => F6
      rename News _ _ _ _ => N6
      exact LCg.CompEnd.intro F6 N6 _ (fun p hp => hp) off trivial ⟨rfl, decide_eq_false (by assumption)⟩
  · intro ys nw hW hys
    subst hW
    intro D2 h3 tk3 F6 N6 off1
    have n5 : @Ne Nat D2 c5 := fun e => off1_mem off1 (c5, o5) (by k_mem) e.symm
    have n6 : @Ne Nat D2 c6 := fun e => off1_mem off1 (c6, o6) (by k_mem) e.symm
    simp only [LCg.Off1, and_true] at off1
    k_steps
    unfold StopHere
    rename Fr _ _ _ _ => F4
    rename News _ _ _ _ => N4
    refine LCt.ListComp_T (F₀ := F4) (by with_unfolding_all rfl) (by decide) (by rfl) (by decide) (by rfl) ?_
    k_steps
    unfold StopHere
    rename Fr _ _ _ _ => F4
    rename News _ _ _ _ => N4
    refine LCt.CompSrcT.range (n := 8) (by rfl) F4 N4 (by assumption) (by decide) (by rfl) (by decide) ?_
    intro g2
    clear F4 N4
    refine comp_filter (fun nw => ∃ ps c5 o5 qs c6 o6, T4 G0 G0 ps c5 o5 qs c6 o6 ∧ AllNe c5 (lawLed D2 ys L oR oS oF oO oT) ∧ AllNe c6 (lawLed D2 ys L oR oS oF oO oT) ∧ nw = lawLed D2 ys L oR oS oF oO oT ++ tl4 ps c5 o5 qs c6 o6) (fun k => decide (rotL Tx k = Ox)) ?_ ⟨ps, c5, o5, qs, c6, o6, TL, ⟨n5, z5⟩, ⟨n6, z6⟩, rfl⟩ ?_
    · have o54 : ∀ p ∈ lawLed D2 ys L oR oS oF oO oT, p.1 ≠ 54 := by k_all
      have o61 : ∀ p ∈ lawLed D2 ys L oR oS oF oO oT, p.1 ≠ 61 := by k_all
      clear TL a5 a6 off1 z5 z6 n5 n6
      intro i ti I oI C oC D m₂ zs nw h tk E' hi8 hW hC hx F5 N5 off ne
      obtain ⟨ps, c5, o5, qs, c6, o6, TL, a5, a6, rfl⟩ := hW
      simp only [lawLed, tl4, List.cons_append, List.nil_append] at N5
      obtain ⟨hp0, hp1⟩ := pow_bd hi8
      have hp00 := Int.le_trans (show (0 : Int) ≤ 1 by decide) hp0
      have hpr := prod_bd hi8 hF0 hF1
      k_steps
      unfold StopHere
      rename Fr _ _ _ _ => F6
      rename News _ _ _ _ => N6
      have up := tg_up F6 N6 (p := ps) (q := qs) (c5 := c5) (o5 := o5) (c6 := c6) (o6 := o6) (by k_mem) (by k_mem) (by k_mem) (by k_mem)
      refine c_int_divmod (X'.keeps up) (T'.keeps up) (C58.keeps up) (C65.keeps up) tg_stays tg_54 tg_61 (tg_S TL.1 N6 (by k_mem) (by k_mem) tg_c5) (tg_S TL.2 N6 (by k_mem) (by k_mem) tg_c6) rfl (le_up hdp (by decide) : dp + 1 ≤ 378) (le_up hun (by decide) : un + 3 ≤ 4880) (by rw [Int.toNat_natCast]; omega) (by rw [Int.toNat_natCast]; omega) ?_
      rw [Int.toNat_natCast]
      intro cT qT t1T t2T hT2 tkT hkT S5T S6T cnT cgT
      obtain ⟨F7, ps', c5', o5', qs', c6', o6', TL', N7, b5, b6⟩ := tl_go2 (G0 := G0) 10 F6 N6 (by k_mem) (by k_mem) (by k_mem) (by k_mem) hkT S5T S6T (neN (by omega)) (neN (by omega)) (heads_ne off o54 (.head _)) (heads_ne off o61 (.tail _ (.tail _ (.head _)))) (heads_ne off a5.mem (.tail _ (.head _))) (heads_ne off a6.mem (.tail _ (.tail _ (.tail _ (.head _)))))
      simp only [List.take, tl4, List.cons_append, List.nil_append] at N7
      have N8 := news_new F6 cnT cgT N7
      clear F6 N6 N7 up S5T S6T
      k_steps
      · unfold StopHere
        rename Fr _ _ _ _ => F9
        rename News _ _ _ _ => N9
        exact LCg.CompEnd.intro F9 N9 (lawLed D2 ys L oR oS oF oO oT ++ tl4 ps' c5' o5' qs' c6' o6') (fun p hp => .tail _ hp) (off_tl off ⟨b5.1, b5.2.1, b5.2.2.1⟩ ⟨b6.1, b6.2.1, b6.2.2.1⟩) trivial ⟨⟨ps', c5', o5', qs', c6', o6', TL', b5.2.2.2, b6.2.2.2, rfl⟩, decide_eq_true ((hturn i hi8).mp (by assumption)), _, rfl⟩
      · unfold StopHere
        rename Fr _ _ _ _ => F9
        rename News _ _ _ _ => N9
        exact LCg.CompEnd.intro F9 N9 (lawLed D2 ys L oR oS oF oO oT ++ tl4 ps' c5' o5' qs' c6' o6') (fun p hp => .tail _ hp) (off_tl off ⟨b5.1, b5.2.1, b5.2.2.1⟩ ⟨b6.1, b6.2.1, b6.2.2.1⟩) trivial ⟨⟨ps', c5', o5', qs', c6', o6', TL', b5.2.2.2, b6.2.2.2, rfl⟩, decide_eq_false fun e => absurd ((hturn i hi8).mpr e) (by assumption)⟩
    · clear TL a5 a6 off1 z5 z6 n5 n6
      intro zs nw hW hzs
      obtain ⟨ps, c5, o5, qs, c6, o6, TL, a5, a6, rfl⟩ := hW
      intro D3 h4 tk4 F6 N6 off3
      simp only [lawLed, tl4, List.cons_append, List.nil_append] at N6
      k_steps
      unfold StopHere
      rename Fr _ _ _ _ => F6
      rename News _ _ _ _ => N6
      refine ne_intsK (isList_news N6 (by k_mem)) hzs (isList_news N6 (by k_mem)) hys (by (show un + 3 + 64 < cLine); simp only [cLine]; omega) ?_
      rw [decide_eq_true rfl, Bool.not_true]
      iterate 3 (first | (k_unfold; (try dsimp only)) | walk1 | (dsimp only; walk1))
      dsimp only
      exact lawD (A := ⟨none, dp, fr, gd, un⟩) (tA := D2) (m₀ := m₀) X' T' rfl hdp hun hT hTL hO hOL F6 (fun p hp => N6 p (.tail _ hp)) dO dT hys fun h' tk m' f g1 g2 g3 => hQ h' tk m' f g1 g2 g3
end
end LC

--{
local macro_rules | `(tactic| walk_at "binaryOp Mult int int") => `(tactic| (refine mulK (by first | assumption | decide) (by first | assumption | decide) ?_; intro _ _))
local macro_rules | `(tactic| walk_at "call builtin:sum") => `(tactic| (k_here; refine StopHere.go ?_))
local macro_rules | `(tactic| walk_at "compareOp NotEq int int") => `(tactic| (k_here; refine StopHere.go ?_))
--}
section LB
section
variable {w : World} {A : Around} {s : Shared} {E : Value → Shared → Prop} {Q : Flow → Shared → Prop} {p : Program} {loose : List Str} {mean : ExcName → Option Value} {mg mb : Str → Option Value}
abbrev lawCells (L : Addr) (oR oS oF oO oT : Obj) : List (Addr × Obj) := [(L + 1 + 1 + 1 + 1 + 1, oR), (L + 1 + 1 + 1 + 1, oS), (L + 1 + 1 + 1, oF), (L + 1 + 1, oO), (L + 1, oT), (180, tabObj #[])]
set_option maxHeartbeats 1600000 in
theorem lawB {G0 : Heap} {L fa : Addr} {cd : Value} {m₀ : Str → Option Value} {oR oS oF oO oT o5 o6 : Obj} {ps qs : Array Value} {c5 c6 : Addr} {Tx Ox : List Nat} {t1 t2 t3 t4 t5 : Tok} {F1 S2 : Int}
    (X' : (hd.heap_39 w.params).In G0) (T' : Top p loose mean mg mb G0) (C58 : CodeHd G0 58 54) (C65 : CodeHd G0 65 61) (hh : A.handled = none) (hdp : A.depth ≤ 310) (hun : A.units ≤ 4000)
    (l180 : @LT.lt Nat _ 180 L) (hT : Tx.length = 8) (hTL : ∀ c ∈ Tx, Letter c) (hO : Ox.length = 8) (hOL : ∀ c ∈ Ox, Letter c)
    (hF0 : 0 ≤ F1) (hF1 : F1 < 281474976710656) (hS0 : 0 ≤ S2) (hS1 : S2 < 281474976710656)
    (hturn : ∀ k : Nat, k < 8 → ((F1 * ((64 ^ k : Nat) : Int) - S2) % RING = 0 ↔ rotL Tx (k : Int) = Ox))
    (hrest : ∀ k : Nat, k < 8 → (0 ≤ restV F1 k ∧ restV F1 k < 281474976710656) ∧ wr8 (digs 8 6 (restV F1 k)).reverse = rotL Tx (k : Int))
    (hsum : ((List.range 8).map (restV F1)).sum * 63 = (digs 6 (cnt 6 F1) F1).sum * RING)
    (F' : Fr G0 L s.heap m₀)
    (N' : News G0 L s.heap [(L + 1 + 1 + 1 + 1 + 1, oR), (L + 1 + 1 + 1 + 1, oS), (L + 1 + 1 + 1, oF), (L + 1 + 1, oO), (L + 1, oT), (180, tabObj #[]), (54, tabObj ps), (c5, o5), (61, tabObj qs), (c6, o6)])
    (TL : T4 G0 G0 ps c5 o5 qs c6 o6) (a5 : AllNe c5 (lawCells L oR oS oF oO oT)) (a6 : AllNe c6 (lawCells L oR oS oF oO oT))
    (dR : oR.data = .cell (some (.int RING t3))) (dS : oS.data = .cell (some (.int S2 t4))) (dF : oF.data = .cell (some (.int F1 t5)))
    (dO : oO.data = .cell (some (.str ⟨Ox.toArray⟩ t1))) (dT : oT.data = .cell (some (.str ⟨Tx.toArray⟩ t2)))
    (hQ : ∀ h' tk m', Fr G0 L h' m' → GrownAt 180 h' → GrownAt 61 h' → GrownAt 54 h' → Q (.ret (.bool true)) { s with heap := h', toks := tk }) :
    wpAny (model PySem.Challenge.rw_ku0026_01.row.prog w) (A.deeper (envOfC (Str.ofString "law") (stScope law1) L fa cd)) (execs ((stBody law1).drop 6) (envOfC (Str.ofString "law") (stScope law1) L fa cd)) Q E s := by
  obtain ⟨hd, dp, fr, gd, un⟩ := A
  dsimp only at hh hdp hun
  subst hh
  (rename Frag.In _ _ => X'; revert X'; k_fill; intro X')
  rename Frag.In _ G0 => X'
  conv in (occs := *) (stScope law1) => all_goals whnf
  conv in (List.drop _ _) => whnf
  (try dsimp only)
  k_unmd
  have o54 : ∀ p ∈ lawCells L oR oS oF oO oT, p.1 ≠ 54 := by k_all
  have o61 : ∀ p ∈ lawCells L oR oS oF oO oT, p.1 ≠ 61 := by k_all
  k_steps
  unfold StopHere
  rename Fr _ _ _ _ => F4
  rename News _ _ _ _ => N4
  refine LCg.Assign_ListComp_U (F₀ := F4) (by rfl) (by with_unfolding_all rfl) (by with_unfolding_all rfl) (by decide) (by rfl) (by decide) (by rfl) (by rfl) (by rfl) ?_
  k_steps
  unfold StopHere
  rename Fr _ _ _ _ => F4
  rename News _ _ _ _ => N4
  refine LCg.CompSrc.range (n := 8) (by rfl) F4 N4 (by assumption) (by decide) (by rfl) (by decide) ?_
  intro g'
  clear F4 N4
  refine comp_map (fun nw => ∃ ps c5 o5 qs c6 o6, T4 G0 G0 ps c5 o5 qs c6 o6 ∧ AllNe c5 (lawCells L oR oS oF oO oT) ∧ AllNe c6 (lawCells L oR oS oF oO oT) ∧ nw = lawCells L oR oS oF oO oT ++ tl4 ps c5 o5 qs c6 o6) (fun i y => ∃ t, y = .int (restV F1 i) t) ?_ ⟨ps, c5, o5, qs, c6, o6, TL, a5, a6, rfl⟩ ?_
  · clear TL a5 a6
    intro i v I oI C oC D m₂ zs nw h tk E' hi8 hP hW hC hx F5 N5 off ne
    obtain ⟨ps, c5, o5, qs, c6, o6, TL, a5, a6, rfl⟩ := hW
    obtain ⟨ti, rfl⟩ := hP
    rw [Int.zero_add] at hx
    simp only [lawCells, tl4, List.cons_append, List.nil_append] at N5
    obtain ⟨hp0, hp1⟩ := pow_bd hi8
    have hp00 := Int.le_trans (show (0 : Int) ≤ 1 by decide) hp0
    have hpr := prod_bd hi8 hF0 hF1
    k_steps
    unfold StopHere
    rename Fr _ _ _ _ => F6
    rename News _ _ _ _ => N6
    have up := tg_up F6 N6 (p := ps) (q := qs) (c5 := c5) (o5 := o5) (c6 := c6) (o6 := o6) (by k_mem) (by k_mem) (by k_mem) (by k_mem)
    refine c_int_divmod (X'.keeps up) (T'.keeps up) (C58.keeps up) (C65.keeps up) tg_stays tg_54 tg_61 (tg_S TL.1 N6 (by k_mem) (by k_mem) tg_c5) (tg_S TL.2 N6 (by k_mem) (by k_mem) tg_c6) rfl (le_up hdp (by decide) : dp + 1 ≤ 378) (le_up hun (by decide) : un + 3 ≤ 4880) (by rw [Int.toNat_natCast]; omega) (by rw [Int.toNat_natCast]; omega) ?_
    rw [Int.toNat_natCast]
    intro cT qT t1T t2T hT2 tkT hkT S5T S6T cnT cgT
    obtain ⟨F7, ps', c5', o5', qs', c6', o6', TL', N7, b5, b6⟩ := tl_go2 (G0 := G0) 9 F6 N6 (by k_mem) (by k_mem) (by k_mem) (by k_mem) hkT S5T S6T (neN (by omega)) (neN (by omega)) (heads_ne off o54 (.head _)) (heads_ne off o61 (.tail _ (.tail _ (.head _)))) (heads_ne off a5.mem (.tail _ (.head _))) (heads_ne off a6.mem (.tail _ (.tail _ (.tail _ (.head _)))))
    simp only [List.take, tl4, List.cons_append, List.nil_append] at N7
    have N8 := news_new F6 cnT cgT N7
    clear F6 N6 N7 up S5T S6T
    k_steps
    · unfold StopHere
      rename Fr _ _ _ _ => F9
      rename News _ _ _ _ => N9
      exact LCg.CompEnd.intro F9 N9 (lawCells L oR oS oF oO oT ++ tl4 ps' c5' o5' qs' c6' o6') (fun p hp => .tail _ hp) (off_tl off ⟨b5.1, b5.2.1, b5.2.2.1⟩ ⟨b6.1, b6.2.1, b6.2.2.1⟩) trivial ⟨⟨ps', c5', o5', qs', c6', o6', TL', b5.2.2.2, b6.2.2.2, rfl⟩, t2T, congrArg (fun z => Value.int z t2T) (if_neg (by assumption)).symm⟩
    · unfold StopHere
      rename Fr _ _ _ _ => F9
      rename News _ _ _ _ => N9
      exact LCg.CompEnd.intro F9 N9 (lawCells L oR oS oF oO oT ++ tl4 ps' c5' o5' qs' c6' o6') (fun p hp => .tail _ hp) (off_tl off ⟨b5.1, b5.2.1, b5.2.2.1⟩ ⟨b6.1, b6.2.1, b6.2.2.1⟩) trivial ⟨⟨ps', c5', o5', qs', c6', o6', TL', b5.2.2.2, b6.2.2.2, rfl⟩, t5, congrArg (fun z => Value.int z t5) (if_pos (by assumption)).symm⟩
  · clear TL a5 a6
    intro ys nw hW hlen hys
    obtain ⟨ps, c5, o5, qs, c6, o6, TL, a5, a6, rfl⟩ := hW
    intro D2 h3 tk3 F6 N6 off1
    obtain ⟨d54, d5, d61, d6⟩ := off1_tl off1
    have o54 := ne_cons (o := LCg.lst ys) d54 o54
    have o61 := ne_cons (o := LCg.lst ys) d61 o61
    clear off1
    simp only [lawCells, tl4, List.cons_append, List.nil_append] at N6
    k_steps
    unfold StopHere
    rename Fr _ _ _ _ => F4
    rename News _ _ _ _ => N4
    refine LCg.ListComp_U (F₀ := F4) (by with_unfolding_all rfl) (by decide) (by rfl) (by decide) (by rfl) ?_
    k_steps
    unfold StopHere
    rename Fr _ _ _ _ => F4
    rename News _ _ _ _ => N4
    refine LCg.CompSrc.ledger (by rfl) F4 N4 (by k_mem) (by rw [sizeLine_eq, List.size_toArray]; omega) ?_
    intro g2
    clear F4 N4
    refine comp_map (fun nw => ∃ ps c5 o5 qs c6 o6, T4 G0 G0 ps c5 o5 qs c6 o6 ∧ AllNe c5 ((D2, LCg.lst ys) :: lawCells L oR oS oF oO oT) ∧ AllNe c6 ((D2, LCg.lst ys) :: lawCells L oR oS oF oO oT) ∧ nw = ((D2, LCg.lst ys) :: lawCells L oR oS oF oO oT) ++ tl4 ps c5 o5 qs c6 o6) (fun i y => ∃ t, y = .str ⟨(rotL Tx (i : Int)).toArray⟩ t) ?_ ⟨ps, c5, o5, qs, c6, o6, TL, ⟨d5, a5⟩, ⟨d6, a6⟩, rfl⟩ ?_
    · clear TL a5 a6 d5 d6
      intro i v I oI C oC D m₂ zs nw h tk E' hi8 hP hW hC hx F5 N5 off ne
      obtain ⟨ps, c5, o5, qs, c6, o6, TL, a5, a6, rfl⟩ := hW
      have hi8 : i < 8 := by rw [List.size_toArray, hlen] at hi8; exact hi8
      obtain ⟨ti, rfl⟩ := hys i v (by simpa using hP)
      obtain ⟨⟨hr0, hr1⟩, hr2⟩ := hrest i hi8
      simp only [lawCells, tl4, List.cons_append, List.nil_append] at N5
      k_steps
      unfold StopHere
      rename Fr _ _ _ _ => F6
      rename News _ _ _ _ => N6
      have up := tg_up F6 N6 (p := ps) (q := qs) (c5 := c5) (o5 := o5) (c6 := c6) (o6 := o6) (by k_mem) (by k_mem) (by k_mem) (by k_mem)
      refine c_law_writing (X'.keeps up) (T'.keeps up) (C58.keeps up) tg_stays tg_54 tg_61 (tg_S TL.1 N6 (by k_mem) (by k_mem) tg_c5) (tg_S TL.2 N6 (by k_mem) (by k_mem) tg_c6) rfl (le_up hdp (by decide) : dp + 1 ≤ 380) (le_up hun (by decide) : un + 3 ≤ 4900) hr0 (by omega) ?_
      rw [hr2]
      intro t1T hT2 tkT hkT S5T S6T
      obtain ⟨F7, ps', c5', o5', qs', c6', o6', TL', N7, b5, b6⟩ := tl_go2 (G0 := G0) 10 F6 N6 (by k_mem) (by k_mem) (by k_mem) (by k_mem) hkT S5T S6T (neN (by omega)) (neN (by omega)) (heads_ne off o54 (.head _)) (heads_ne off o61 (.tail _ (.tail _ (.head _)))) (heads_ne off a5.mem (.tail _ (.head _))) (heads_ne off a6.mem (.tail _ (.tail _ (.tail _ (.head _)))))
      simp only [List.take, tl4, List.cons_append, List.nil_append] at N7
      clear F6 N6 up S5T S6T
      k_steps
      unfold StopHere
      exact LCg.CompEnd.intro F7 N7 (((D2, LCg.lst ys) :: lawCells L oR oS oF oO oT) ++ tl4 ps' c5' o5' qs' c6' o6') (fun p hp => hp) (off_tl off ⟨b5.1, b5.2.1, b5.2.2.1⟩ ⟨b6.1, b6.2.1, b6.2.2.1⟩) (.inr ⟨_, .head _, rfl, _, rfl⟩) ⟨⟨ps', c5', o5', qs', c6', o6', TL', b5.2.2.2, b6.2.2.2, rfl⟩, _, rfl⟩
    · clear TL a5 a6 d5 d6
      intro zs nw hW hzl hzs
      obtain ⟨ps, c5, o5, qs, c6, o6, TL, a5, a6, rfl⟩ := hW
      intro D3 h4 tk4 F6 N6 off3
      simp only [lawCells, tl4, List.cons_append, List.nil_append] at N6
      k_steps
      unfold StopHere
      rename Fr _ _ _ _ => F4
      rename News _ _ _ _ => N4
      refine LCg.ListComp_U (F₀ := F4) (by with_unfolding_all rfl) (by decide) (by rfl) (by decide) (by rfl) ?_
      k_steps
      unfold StopHere
      rename Fr _ _ _ _ => F4
      rename News _ _ _ _ => N4
      refine LCg.CompSrc.range (n := 8) (by rfl) F4 N4 (by assumption) (by decide) (by rfl) (by decide) ?_
      intro g3
      clear F4 N4
      refine comp_map (fun nw => nw = ((D3, LCg.lst zs) :: (D2, LCg.lst ys) :: lawCells L oR oS oF oO oT) ++ tl4 ps c5 o5 qs c6 o6) (fun i y => ∃ t, y = .str ⟨(rotL Tx (i : Int)).toArray⟩ t) ?_ rfl ?_
      · clear TL a5 a6
        intro i v I oI C oC D m₂ us nw h tk E' hi8 hP hW hC hx F5 N5 off ne
        subst hW
        obtain ⟨ti, rfl⟩ := hP
        rw [Int.zero_add] at hx
        simp only [lawCells, tl4, List.cons_append, List.nil_append] at N5
        k_steps
        unfold StopHere
        rename Fr _ _ _ _ => F9
        rename News _ _ _ _ => N9
        exact LCg.CompEnd.intro F9 N9 (((D3, LCg.lst zs) :: (D2, LCg.lst ys) :: lawCells L oR oS oF oO oT) ++ tl4 ps c5 o5 qs c6 o6) (fun p hp => hp) off trivial ⟨rfl, _, rfl⟩
      · intro us nw hW hul hus
        subst hW
        intro D4 h5 tk5 F6 N6 off4
        simp only [lawCells, tl4, List.cons_append, List.nil_append] at N6
        k_steps
        unfold StopHere
        rename Fr _ _ _ _ => F6
        rename News _ _ _ _ => N6
        have hz8 : zs.length = 8 := by rw [hzl, List.size_toArray, hlen]
        have tz := texts_of_rel zs (fun i => ⟨(rotL Tx (i : Int)).toArray⟩) hzs
        have tu := texts_of_rel us (fun i => ⟨(rotL Tx (i : Int)).toArray⟩) hus
        rw [hz8] at tz
        rw [hul] at tu
        refine ne_texts (isList_news N6 (by k_mem)) tz (isList_news N6 (by k_mem)) tu (rot_ok hTL) (by (show un + 3 + 64 < cLine); simp only [cLine]; omega) ?_
        have N7 := news_tail N6
        have N8 := news_tail N7
        clear N6 N7 tz tu
        k_steps
        unfold StopHere
        have tr := ints_of_rel ys (restV F1) hys
        rw [hlen] at tr
        rename Fr _ _ _ _ => F6
        rename News _ _ _ _ => N6
        refine sumK rfl F6 N6 (isList_news N6 (by k_mem)) tr ?_
        intro h6 tk6 t6 F7 N7
        clear F6 N6
        k_steps
        unfold StopHere
        rename Fr _ _ _ _ => F6
        rename News _ _ _ _ => N6
        have up := tg_up F6 N6 (p := ps) (q := qs) (c5 := c5) (o5 := o5) (c6 := c6) (o6 := o6) (by k_mem) (by k_mem) (by k_mem) (by k_mem)
        have S5 := tg_S TL.1 N6 (by k_mem) (by k_mem) (tg_c5 (h := _) (c5 := c5) (c6 := c6))
        have S6 := tg_S TL.2 N6 (by k_mem) (by k_mem) (tg_c6 (h := _) (c5 := c5) (c6 := c6))
        refine c_int2digits (n := 6) (X'.keeps up) (T'.keeps up) (C58.keeps up) tg_stays tg_54 S5 rfl (le_up hdp (by decide) : dp + 1 ≤ 390) (le_up hun (by decide) : un + 3 ≤ 5000) (by decide) (by decide) hF0 (by omega) ?_
        intro lT hT2 tkT dvs dk hkT S5T hlT hgT hdT
        obtain ⟨F8, ps', c5', o5', qs', c6', o6', TL', N9, b5, b6⟩ := tl_go2 (G0 := G0) 7 F6 N6 (by k_mem) (by k_mem) (by k_mem) (by k_mem) (fun b o h1 _ => hkT b o h1) S5T (S6.but S5 (by decide) hkT) (neN (by omega)) (neN (by omega)) o54 o61 a5.mem a6.mem
        simp only [List.take, tl4, List.cons_append, List.nil_append] at N9
        have N10 := news_new F6 hlT hgT N9
        clear F6 N6 N9 up S5T S5 S6
        k_steps
        unfold StopHere
        rename Fr _ _ _ _ => F6
        rename News _ _ _ _ => N6
        refine sumK rfl F6 N6 (isList_news N6 (by k_mem)) hdT ?_
        intro h7 tk7 t7 F9 N11
        clear F6 N6
        k_steps
        unfold StopHere
        rename Fr _ _ _ _ => F6
        rename News _ _ _ _ => N6
        refine PyProof.Rows.ne_int ?_
        rw [hsum, bne_self_eq_false]
        iterate 3 (first | (k_unfold; (try dsimp only)) | walk1 | (dsimp only; walk1))
        dsimp only
        exact lawC (A := ⟨none, dp, fr, gd, un⟩) X' T' C58 C65 rfl hdp hun l180 hT hTL hO hOL hF0 hF1 hS0 hS1 hturn F6 (news_tail (news_tail N6)) TL' b5.2 b6.2 dR dS dF dO dT fun h' tk m' f g1 g2 g3 => hQ h' tk m' f g1 g2 g3
end
end LB

-- as tl_go2, over any ground
theorem tl_go3 {G0 G1 h h' : Heap} {L : Addr} {m : Str → Option Value} {news : List (Addr × Obj)} {p q : Array Value} (k : Nat) (up : G0.StaysIn G1) (F : Fr G0 L h m) (N : News G0 L h news) (m1 : (54, tabObj p) ∈ news) (m2 : (61, tabObj q) ∈ news)
    (hk : KeepT h h') (S5 : St54 G1 h') (S6 : St61 G1 h') (l5 : 54 ≠ L) (l6 : 61 ≠ L)
    (h5 : ∀ p ∈ news.take k, p.1 ≠ 54) (h6 : ∀ p ∈ news.take k, p.1 ≠ 61) (kept : ∀ x ∈ news.take k, G1.get? x.1 = some x.2) :
    Fr G0 L h' m ∧ ∃ p c5 o5 q c6 o6, T4 G0 G0 p c5 o5 q c6 o6 ∧ News G0 L h' (news.take k ++ tl4 p c5 o5 q c6 o6) ∧ AllNe c5 (news.take k) ∧ AllNe c6 (news.take k) := by
  have g5 := (N _ m1).2.2
  have g6 := (N _ m2).2.2
  obtain ⟨oL, es, ep, e, r⟩ := F.ns
  have F' : Fr G0 L h' m := ⟨⟨oL, es, ep, hk _ _ (Ne.symm l5) (Ne.symm l6) e, r⟩, fun b o e => hk b o (fun q => by rw [q, g5] at e; cases e) (fun q => by rw [q, g6] at e; cases e) (F.keep b o e), F.above⟩
  have dictL : ∀ o vs, h'.get? L = some o → o.data ≠ .fields vs := fun o vs e hd => by
    obtain ⟨oL, es, ep, e', hd', _⟩ := F'.ns
    rw [e] at e'; cases e'; rw [hd] at hd'; cases hd'
  have one : ∀ P l c q, TabSt G1 P l c q h' → P ≠ L → G0.get? P = none → ∃ ps c' o', h'.get? P = some (tabObj ps) ∧ TabKn G0 G0 (c', o') P l c q ps ∧ h'.get? c' = some o' ∧ c' ≠ L ∧ G0.get? c' = none ∧ (c' = P ∨ G1.get? c' = none) := by
    intro P l c q S hL hg
    rcases S with S | ⟨cd, oc, vs, t, S, h1, h2, h3, h4, h5⟩
    · exact ⟨_, P, _, S, .inl rfl, S, hL, hg, .inl rfl⟩
    · have hgc : G0.get? cd = none := by
        cases e : G0.get? cd with
        | none => rfl
        | some o => rw [up _ _ e] at h5; cases h5
      exact ⟨_, cd, oc, S, .inr ⟨cd, oc, vs, t, rfl, .inl rfl, h2, h3, h4, hgc⟩, h1, fun e => dictL oc vs (by rw [← e]; exact h1) h2, hgc, .inr h5⟩
  obtain ⟨p', c5', o5', a1, a2, a3, a4, a5, a6⟩ := one _ _ _ _ S5 l5 g5
  obtain ⟨q', c6', o6', b1, b2, b3, b4, b5, b6⟩ := one _ _ _ _ S6 l6 g6
  have ne : ∀ {c' P : Addr}, (∀ x ∈ news.take k, x.1 ≠ P) → (c' = P ∨ G1.get? c' = none) → ∀ x ∈ news.take k, x.1 ≠ c' := fun hP hc x hx e => by
    rcases hc with hc | hc
    · exact hP x hx (e.trans hc)
    · have := kept x hx
      rw [e, hc] at this
      cases this
  have mk : ∀ {c' : Addr} (l : List (Addr × Obj)), (∀ x ∈ l, x.1 ≠ c') → AllNe c' l := by
    intro c' l
    induction l with
    | nil => intro _; trivial
    | cons x r ih => intro hx; exact ⟨hx x (.head _), ih fun y hy => hx y (.tail _ hy)⟩
  refine ⟨F', p', c5', o5', q', c6', o6', ⟨a2, b2⟩, fun x hx => ?_, mk _ (ne h5 a6), mk _ (ne h6 b6)⟩
  rcases List.mem_append.mp hx with hx | hx
  · exact ⟨hk _ _ (h5 x hx) (h6 x hx) (N x (List.mem_of_mem_take hx)).1, (N x (List.mem_of_mem_take hx)).2⟩
  · simp only [List.mem_cons, List.not_mem_nil, or_false] at hx
    rcases hx with rfl | rfl | rfl | rfl
    · exact ⟨a1, l5, g5⟩
    · exact ⟨a3, a4, a5⟩
    · exact ⟨b1, l6, g6⟩
    · exact ⟨b3, b4, b5⟩
-- a ground without one list more
abbrev tabD (h : Heap) (c5 c6 D : Addr) : Heap := hideAll h [54, 61, c5, c6, D]
section
variable {G0 G1 h : Heap} {L : Addr} {m : Str → Option Value} {news : List (Addr × Obj)} {p q : Array Value} {c5 c6 D : Addr} {o5 o6 oD : Obj}
theorem td_stays : (tabD h c5 c6 D).StaysIn h := fun b o e => of_hideAll _ e
theorem td_54 : (tabD h c5 c6 D).get? 54 = none := hideAll_none _ (by simp)
theorem td_61 : (tabD h c5 c6 D).get? 61 = none := hideAll_none _ (by simp)
theorem td_c5 : (tabD h c5 c6 D).get? c5 = none := hideAll_none _ (by simp)
theorem td_c6 : (tabD h c5 c6 D).get? c6 = none := hideAll_none _ (by simp)
theorem td_D : (tabD h c5 c6 D).get? D = none := hideAll_none _ (by simp)
theorem td_get {b : Addr} {o : Obj} (e : h.get? b = some o) (h1 : b ≠ 54) (h2 : b ≠ 61) (h3 : b ≠ c5) (h4 : b ≠ c6) (h5 : b ≠ D) : (tabD h c5 c6 D).get? b = some o :=
  hideAll_get _ e (by simp only [List.mem_cons, List.not_mem_nil, or_false, not_or]; exact ⟨h1, h2, h3, h4, h5⟩)
theorem td_up (F : Fr G0 L h m) (N : News G0 L h news) (m1 : (54, tabObj p) ∈ news) (m2 : (61, tabObj q) ∈ news) (m5 : (c5, o5) ∈ news) (m6 : (c6, o6) ∈ news) (mD : (D, oD) ∈ news) : G0.StaysIn (tabD h c5 c6 D) := fun b o e => by
  have z : ∀ {a : Addr} {x : Obj}, (a, x) ∈ news → b ≠ a := fun hm q => by
    have := (N _ hm).2.2
    rw [show b = _ from q] at e
    rw [this] at e
    cases e
  exact td_get (F.keep b o e) (z m1) (z m2) (z m5) (z m6) (z mD)
theorem tk_S {P : Addr} {l c : Int} {qn : Str} {ps : Array Value} {cc : Addr} {oo : Obj} (K : TabKn G0 G0 (cc, oo) P l c qn ps) (N : News G0 L h news) (m1 : (P, tabObj ps) ∈ news) (m2 : (cc, oo) ∈ news) (hz : G1.get? cc = none) : TabSt G1 P l c qn h := by
  rcases K with rfl | ⟨cd, oc, vs, t, rfl, h1, h2, h3, h4, h5⟩
  · exact .inl (N _ m1).1
  · rcases h1 with h1 | h1
    · obtain ⟨e1, e2⟩ := Prod.mk.inj h1
      subst e1 e2
      exact .inr ⟨cd, oc, vs, t, (N _ m1).1, (N _ m2).1, h2, h3, h4, hz⟩
    · rw [h5] at h1; cases h1
end
-- what the plain law says of the octets
theorem letter_sign : ∀ d : Fin 64, (b64c (d.val : Int)).toNat < 128 ∧ b64v (((b64c (d.val : Int)).toNat : Nat) : Int) < 64 ∧ 0 ≤ b64v (((b64c (d.val : Int)).toNat : Nat) : Int) ∧ ¬ (b64c (d.val : Int)).toNat = 61 := by decide +kernel
theorem signs_letters {D : List Int} (hd : Dig D) : ∀ c ∈ signs D, Letter c ∧ 0 ≤ b64v (c : Int) ∧ ¬ c = 61 := fun c hc => by
  obtain ⟨d, hd1, rfl⟩ := List.mem_map.mp hc
  obtain ⟨h0, h1⟩ := hd d hd1
  obtain ⟨m, rfl⟩ := Int.eq_ofNat_of_zero_le h0
  have := letter_sign ⟨m, by omega⟩
  exact ⟨⟨this.1, this.2.1⟩, this.2.2.1, this.2.2.2⟩
theorem unb64_in {E : List Int} (hl : E.length = 8) (he : Dig E) : KBa.In (unb64 E) ∧ (unb64 E).length = 6 := by
  obtain ⟨a, b, c, d, e, f, g, i, rfl⟩ := len8I hl
  obtain ⟨h1, h2, h3, h4, h5, h6, h7, h8⟩ := he.bds
  refine ⟨?_, rfl⟩
  simp only [unb64, KBa.In, List.mem_cons, List.not_mem_nil, or_false, forall_eq_or_imp, forall_eq]
  refine ⟨?_, ?_, ?_, ?_, ?_, ?_⟩ <;> omega
theorem plain_all {ox : List Int} (hol : ox.length = 6) (hox : KBa.In ox) {n : Nat} (hn : n < 8) (kk : Int) {F1 S2 : Int} {Tx Ox : List Nat} {U : List Int} (hF : F1 = undigs 8 ox.reverse) (hTx : Tx = wr8 ox) (hOx : Ox = otherL Tx (n : Int) kk)
    (hU : U = unb64 (Ox.map fun c : Nat => b64v (c : Int))) (hS : S2 = undigs 8 U.reverse) :
    (0 ≤ F1 ∧ F1 < 281474976710656) ∧ (0 ≤ S2 ∧ S2 < 281474976710656) ∧ Ox.length = 8 ∧ (∀ c ∈ Tx, Letter c) ∧ (∀ c ∈ Ox, Letter c) ∧ (∀ c ∈ Ox, 0 ≤ b64v (c : Int) ∧ b64v (c : Int) < 64 ∧ ¬ (c : Int) = 61) ∧ KBa.In U ∧ U.length = 6 ∧
    (∀ k : Nat, k < 8 → ((F1 * ((64 ^ k : Nat) : Int) - S2) % RING = 0 ↔ rotL Tx (k : Int) = Ox)) ∧
    (∀ k : Nat, k < 8 → (0 ≤ restV F1 k ∧ restV F1 k < 281474976710656) ∧ wr8 (digs 8 6 (restV F1 k)).reverse = rotL Tx (k : Int)) ∧
    ((List.range 8).map (restV F1)).sum * 63 = (digs 6 (cnt 6 F1) F1).sum * RING := by
  obtain ⟨_, hF0, hF1⟩ := digs_undigs6 hol hox
  rw [← hF] at hF0 hF1
  have hDl := figs_len F1
  have hDd := figs_dig F1
  have hv := val8_figs hF0 hF1
  have hTs : Tx = signs (figs F1) := by rw [hTx, hF]; exact signs_octets hol hox
  generalize figs F1 = Dg at hDl hDd hv hTs
  have hOs : Ox = signs (otherI Dg n kk) := by rw [hOx, hTs]; exact otherI_signs hDl hn
  have hEl := otherI_len hDl n kk
  have hEd := otherI_dig hDl hDd n kk
  have hUe : U = unb64 (otherI Dg n kk) := by rw [hU, hOs, signs_vals hEd]
  have hSe : S2 = val8 (otherI Dg n kk) := by rw [hS, hUe]; exact undigs_unb64 hEl hEd
  have hSb := val8_bd hEl hEd
  have hUi := unb64_in hEl hEd
  have hRb : (281474976710655 : Int) = RING := rfl
  refine ⟨⟨hF0, hF1⟩, ⟨by omega, by omega⟩, by rw [hOs]; unfold signs; rw [List.length_map]; exact hEl, fun c hc => ?_, fun c hc => ?_, fun c hc => ?_, by rw [hUe]; exact hUi.1, by rw [hUe]; exact hUi.2, fun k hk => ?_, fun k hk => ?_, ?_⟩
  · rw [hTs] at hc; exact (signs_letters hDd c hc).1
  · rw [hOs] at hc; exact (signs_letters hEd c hc).1
  · rw [hOs] at hc
    have := signs_letters hEd c hc
    exact ⟨this.2.1, this.1.2, by have := this.2.2; omega⟩
  · rw [hOx, hTs, hSe, ← hv]
    exact law_turns hDl hDd hn hk
  · rw [hTs, ← hv]
    have hr := restV_eq hDl hDd hk
    have hb := val8_bd (rotI_len hDl k) (rotI_dig hDd k)
    refine ⟨?_, law_turn hDl hDd hk⟩
    rw [hr]
    omega
  · have hd6 := digs6_sum hF0 hF1
    rw [hd6, ← hv, law_sum hDl hDd, figs_val8 hDl hDd]
theorem news_pick {g h : Heap} {L : Addr} {news : List (Addr × Obj)} (l : List (Addr × Obj)) (N : News g L h news) (hs : ∀ p ∈ l, p ∈ news) : News g L h l := fun p hp => N p (hs p hp)
theorem octet_bd {ox : List Int} (h : KBa.In ox) : ∀ d ∈ ox.reverse, 0 ≤ d ∧ d < ((2 ^ 8 : Nat) : Int) := fun d hd => by
  have := h d (List.mem_reverse.mp hd)
  exact ⟨this.1, by omega⟩
theorem cells_54 {L : Addr} {oR oS oF oO oT : Obj} (h : @LT.lt Nat _ 180 L) : ∀ p ∈ lawCells L oR oS oF oO oT, p.1 ≠ 54 := by k_all
theorem cells_61 {L : Addr} {oR oS oF oO oT : Obj} (h : @LT.lt Nat _ 180 L) : ∀ p ∈ lawCells L oR oS oF oO oT, p.1 ≠ 61 := by k_all

section LA2
section
variable {w : World} {A : Around} {s : Shared} {E : Value → Shared → Prop} {Q : Flow → Shared → Prop} {p : Program} {loose : List Str} {mean : ExcName → Option Value} {mg mb : Str → Option Value}
local macro_rules | `(tactic| walk_at "subscriptTail Name Slice ref ref") => `(tactic| (k_here; (with_reducible show wpAny _ _ (subscriptTail _ (PySem.Expr.Slice (some _) none none _) (Value.ref _) (Value.ref _)) _ _ _); refine StopHere.go ?_))
local macro_rules | `(tactic| walk_at "subscriptTail Name Slice ref ref") => `(tactic| (k_here; (with_reducible show wpAny _ _ (subscriptTail _ (PySem.Expr.Slice none none (some _) _) (Value.ref _) (Value.ref _)) _ _ _); refine StopHere.go ?_))
local macro_rules | `(tactic| walk_at "binaryOp Add ref ref") => `(tactic| (k_here; refine StopHere.go ?_))
local macro_rules | `(tactic| walk_at "call type:bytes cons nil") => `(tactic| (k_here; refine StopHere.go ?_))
local macro_rules | `(tactic| walk_at "call type:list") => `(tactic| (k_here; refine StopHere.go ?_))
local macro_rules | `(tactic| walk_at "execs cons") => `(tactic| ((with_reducible show wpAny _ _ (execs (Stmt.Assign [Expr.Name (Str.ofString "rests") _] _ _ :: _) _) _ _ _); refine StopHere.go ?_))
set_option maxHeartbeats 1600000 in
theorem lawA2 {G0 : Heap} {L fa : Addr} {cd : Value} {m₀ : Str → Option Value} {oR oS oF oO oT o5 o6 : Obj} {ps qs : Array Value} {c5 c6 : Addr} {Tx Ox : List Nat} {t1 t2 t5 : Tok} {F1 S2 : Int} {U : List Int}
    (X' : (hd.heap_39 w.params).In G0) (T' : Top p loose mean mg mb G0) (C58 : CodeHd G0 58 54) (C65 : CodeHd G0 65 61) (hh : A.handled = none) (hdp : A.depth ≤ 310) (hun : A.units ≤ 4000)
    (l180 : @LT.lt Nat _ 180 L) (hT : Tx.length = 8) (hTL : ∀ c ∈ Tx, Letter c) (hO : Ox.length = 8) (hOL : ∀ c ∈ Ox, Letter c)
    (hOv : ∀ c ∈ Ox, 0 ≤ b64v (c : Int) ∧ b64v (c : Int) < 64 ∧ ¬ (c : Int) = 61) (hU : U = unb64 (Ox.map fun c : Nat => b64v (c : Int))) (hUi : KBa.In U) (hUl : U.length = 6) (hS2 : S2 = undigs 8 U.reverse)
    (hF0 : 0 ≤ F1) (hF1 : F1 < 281474976710656) (hS0 : 0 ≤ S2) (hS1 : S2 < 281474976710656)
    (hturn : ∀ k : Nat, k < 8 → ((F1 * ((64 ^ k : Nat) : Int) - S2) % RING = 0 ↔ rotL Tx (k : Int) = Ox))
    (hrest : ∀ k : Nat, k < 8 → (0 ≤ restV F1 k ∧ restV F1 k < 281474976710656) ∧ wr8 (digs 8 6 (restV F1 k)).reverse = rotL Tx (k : Int))
    (hsum : ((List.range 8).map (restV F1)).sum * 63 = (digs 6 (cnt 6 F1) F1).sum * RING)
    (F' : Fr G0 L s.heap m₀)
    (N' : News G0 L s.heap [(L + 1 + 1 + 1 + 1 + 1, oR), (L + 1 + 1 + 1 + 1, oS), (L + 1 + 1 + 1, oF), (L + 1 + 1, oO), (L + 1, oT), (180, tabObj #[]), (54, tabObj ps), (c5, o5), (61, tabObj qs), (c6, o6)])
    (TL : T4 G0 G0 ps c5 o5 qs c6 o6) (a5 : AllNe c5 (lawCells L oR oS oF oO oT)) (a6 : AllNe c6 (lawCells L oR oS oF oO oT))
    (dR : oR.data = .cell none) (dS : oS.data = .cell none) (dF : oF.data = .cell (some (.int F1 t5)))
    (dO : oO.data = .cell (some (.str ⟨Ox.toArray⟩ t1))) (dT : oT.data = .cell (some (.str ⟨Tx.toArray⟩ t2)))
    (hQ : ∀ h' tk m', Fr G0 L h' m' → GrownAt 180 h' → GrownAt 61 h' → GrownAt 54 h' → Q (.ret (.bool true)) { s with heap := h', toks := tk }) :
    wpAny (model PySem.Challenge.rw_ku0026_01.row.prog w) (A.deeper (envOfC (Str.ofString "law") (stScope law1) L fa cd)) (execs ((stBody law1).drop 4) (envOfC (Str.ofString "law") (stScope law1) L fa cd)) Q E s := by
  obtain ⟨hd, dp, fr, gd, un⟩ := A
  dsimp only at hh hdp hun
  subst hh
  (rename Frag.In _ _ => X'; revert X'; k_fill; intro X')
  rename Frag.In _ G0 => X'
  conv in (occs := *) (stScope law1) => all_goals whnf
  conv in (List.drop _ _) => whnf
  (try dsimp only)
  k_unmd
  have o54 := cells_54 (oR := oR) (oS := oS) (oF := oF) (oO := oO) (oT := oT) l180
  have o61 := cells_61 (oR := oR) (oS := oS) (oF := oF) (oO := oO) (oT := oT) l180
  k_steps
  unfold StopHere
  rename Fr _ _ _ _ => F6
  rename News _ _ _ _ => N6
  refine c_b64decode hO (fun c hc => (hOL c hc).1) hOv rfl (le_up hdp (by decide) : dp + 1 ≤ 480) (X'.keeps F6.keep) (T'.keeps F6.keep) ?_
  rw [← hU]
  intro tB hB tkB stB
  have F7 := F6.keeps stB
  have N7 := N6.grown stB
  clear F6 N6
  k_steps
  unfold StopHere
  rename Fr _ _ _ _ => F6
  rename News _ _ _ _ => N6
  refine list_bytesK rfl F6 N6 hUi (by rw [hUl]; decide) ?_
  intro D7 c7 hC tkC vs7 F8 N8 l7 hi7
  clear F6 N6
  k_steps
  unfold StopHere
  rename Fr _ _ _ _ => F6
  rename News _ _ _ _ => N6
  refine krv_ints (s := ⟨_, _, _, _, _⟩) F6 N6 (isList_news N6 (by k_mem)) (by kmk_part) hi7 ?_ (by with_unfolding_all rfl) (by kmk_pure) (by rw [sizeLine_eq, List.size_toArray, hi7.length, hUl]; decide)
  intro D6 ws6 h9 F9 N9 l6 hw6 _
  have oD6 : ∀ p ∈ lawCells L oR oS oF oO oT, p.1 ≠ D6 := fun p hp => Nat.ne_of_lt (l6 p (.tail _ (List.mem_append_left _ hp)))
  clear l6 l7 F6 N6
  k_steps
  unfold StopHere
  rename Fr _ _ _ _ => F6
  rename News _ _ _ _ => N6
  have N8 := news_pick (lawCells L oR oS oF oO oT ++ [(D6, listOf ws6.toArray 0), (54, tabObj ps), (c5, o5), (61, tabObj qs), (c6, o6)]) N6 (by
    intro p hp
    simp only [lawCells, List.cons_append, List.nil_append, List.mem_cons, List.not_mem_nil, or_false] at hp
    rcases hp with rfl | rfl | rfl | rfl | rfl | rfl | rfl | rfl | rfl | rfl | rfl <;> k_mem)
  clear N6
  have up := td_up F6 N8 (p := ps) (q := qs) (c5 := c5) (o5 := o5) (c6 := c6) (o6 := o6) (D := D6) (oD := listOf ws6.toArray 0) (by k_mem) (by k_mem) (by k_mem) (by k_mem) (by k_mem)
  have S5 : St54 (tabD h9 c5 c6 D6) h9 := tk_S TL.1 N8 (by k_mem) (by k_mem) td_c5
  have S6 : St61 (tabD h9 c5 c6 D6) h9 := tk_S TL.2 N8 (by k_mem) (by k_mem) td_c6
  refine c_digits2int (n := 8) (X'.keeps up) (T'.keeps up) (C65.keeps up) td_stays td_61 S6 rfl (le_up hdp (by decide) : dp + 1 ≤ 390) (le_up hun (by decide) : un + 3 ≤ 5000) (by decide) (by decide) (N8 (D6, _) (by k_mem)).1 td_D hw6 (by rw [List.length_reverse, hUl]; decide) (octet_bd hUi) (by rw [List.length_reverse, hUl]; decide) ?_
  rw [← hS2]
  intro tA hA tkA hkA SA
  obtain ⟨F8, ps', c5', o5', qs', c6', o6', TL', N9, b5, b6⟩ := tl_go3 (G0 := G0) 6 up F6 N8 (p := ps) (q := qs) (by k_mem) (by k_mem) (fun b o _ h => hkA b o h) (S5.but S6 (by decide) hkA) SA (neN (by omega)) (neN (by omega)) o54 o61 (fun x hx => td_get (N8 x (List.mem_of_mem_take hx)).1 (o54 x hx) (o61 x hx) (a5.mem x hx) (a6.mem x hx) (oD6 x hx))
  change AllNe c5' (lawCells L oR oS oF oO oT) at b5
  change AllNe c6' (lawCells L oR oS oF oO oT) at b6
  have b5' := b5
  have b6' := b6
  simp only [lawCells, AllNe, and_true] at b5 b6
  simp only [List.take, lawCells, tl4, List.cons_append, List.nil_append] at N9
  clear F6 N8 up S5 S6 SA hkA TL a5 a6 oD6
  k_steps
  unfold StopHere
  rename Fr _ _ _ _ => F6
  rename News _ _ _ _ => N6
  rename Obj => oR1
  rename oR1.data = _ => dR1
  rename (_ : Obj).data = Data.cell (some (Value.int S2 _)) => dS1
  exact lawB (A := ⟨none, dp, fr, gd, un⟩) X' T' C58 C65 rfl hdp hun l180 hT hTL hO hOL hF0 hF1 hS0 hS1 hturn hrest hsum F6 N6 TL' ⟨b5.1, b5.2.1, b5.2.2.1, b5.2.2.2.1, b5.2.2.2.2.1, b5.2.2.2.2.2, trivial⟩ ⟨b6.1, b6.2.1, b6.2.2.1, b6.2.2.2.1, b6.2.2.2.2.1, b6.2.2.2.2.2, trivial⟩
    (dR1.trans (congrArg (fun z => Data.cell (some (Value.int z _))) (by decide))) dS1 dF dO dT fun h' tk m' f g1 g2 g3 => hQ h' tk m' f g1 g2 g3
end
end LA2

section LA
section
variable {w : World} {A : Around} {s : Shared} {E : Value → Shared → Prop} {Q : Flow → Shared → Prop} {p : Program} {loose : List Str} {mean : ExcName → Option Value} {mg mb : Str → Option Value}
local macro_rules | `(tactic| walk_at "my none") => `(tactic| skip)
local macro_rules | `(tactic| walk_at "subscriptTail Name Slice ref ref") => `(tactic| (k_here; (with_reducible show wpAny _ _ (subscriptTail _ (PySem.Expr.Slice (some _) none none _) (Value.ref _) (Value.ref _)) _ _ _); refine StopHere.go ?_))
local macro_rules | `(tactic| walk_at "subscriptTail Name Slice ref ref") => `(tactic| (k_here; (with_reducible show wpAny _ _ (subscriptTail _ (PySem.Expr.Slice none none (some _) _) (Value.ref _) (Value.ref _)) _ _ _); refine StopHere.go ?_))
local macro_rules | `(tactic| walk_at "binaryOp Add ref ref") => `(tactic| (k_here; refine StopHere.go ?_))
local macro_rules | `(tactic| walk_at "call type:bytes cons nil") => `(tactic| (k_here; refine StopHere.go ?_))
local macro_rules | `(tactic| walk_at "call type:list") => `(tactic| (k_here; refine StopHere.go ?_))
local macro_rules | `(tactic| walk_at "execs cons") => `(tactic| ((with_reducible show wpAny _ _ (execs (Stmt.Assign [Expr.Name (Str.ofString "second") _] _ _ :: _) _) _ _ _); refine StopHere.go ?_))
def numL (ns : List Int) : List Int := ns.take 8 ++ [4, 32, 67, 4, 32, 67, 2, 0].drop ns.length
theorem numL_len (ns : List Int) : (numL ns).length = 8 := by unfold numL; simp only [List.length_append, List.length_take, List.length_drop, List.length_cons, List.length_nil]; omega
theorem mods_in (l : List Int) : KBa.In (l.map fun k => k % 256) := fun d hd => by
  obtain ⟨k, _, rfl⟩ := List.mem_map.mp hd
  exact ⟨Int.emod_nonneg _ (by decide), Int.emod_lt_of_pos _ (by decide)⟩
theorem ints8 {us : List Value} {x0 x1 x2 x3 x4 x5 x6 x7 : Int} (h : IntsAre us [x0, x1, x2, x3, x4, x5, x6, x7]) : ∃ t0 t1 t2 t3 t4 t5 t6 t7, us = [.int x0 t0, .int x1 t1, .int x2 t2, .int x3 t3, .int x4 t4, .int x5 t5, .int x6 t6, .int x7 t7] := by
  cases h with
  | cons _ t0 h => cases h with
    | cons _ t1 h => cases h with
      | cons _ t2 h => cases h with
        | cons _ t3 h => cases h with
          | cons _ t4 h => cases h with
            | cons _ t5 h => cases h with
              | cons _ t6 h => cases h with
                | cons _ t7 h => cases h; exact ⟨t0, t1, t2, t3, t4, t5, t6, t7, rfl⟩
set_option maxHeartbeats 1600000 in
theorem lawA {G0 : Heap} {L fa lA : Addr} {cd : Value} {m₀ : Str → Option Value} {oR oS oF oO oT : Obj} {vs : List Value} {ns : List Int}
    (X' : (hd.heap_39 w.params).In G0) (T' : Top p loose mean mg mb G0) (C58 : CodeHd G0 58 54) (C65 : CodeHd G0 65 61) (hh : A.handled = none) (hdp : A.depth ≤ 310) (hun : A.units ≤ 4000)
    (l180 : @LT.lt Nat _ 180 L) (hS : G0.IsList lA vs.toArray) (hI : IntsAre vs ns) (hns : ns.length ≤ 63)
    (F' : Fr G0 L s.heap (fun y => if y = Str.ofString "script" then some (.ref lA) else m₀ y))
    (N' : News G0 L s.heap [(L + 1 + 1 + 1 + 1 + 1, oR), (L + 1 + 1 + 1 + 1, oS), (L + 1 + 1 + 1, oF), (L + 1 + 1, oO), (L + 1, oT), (180, tabObj #[]), (61, tabObj #[]), (54, tabObj #[])])
    (dR : oR.data = .cell none) (dS : oS.data = .cell none) (dF : oF.data = .cell none) (dO : oO.data = .cell none) (dT : oT.data = .cell none)
    (hQ : ∀ h' tk m', Fr G0 L h' m' → GrownAt 180 h' → GrownAt 61 h' → GrownAt 54 h' → Q (.ret (.bool true)) { s with heap := h', toks := tk }) :
    wpAny (model PySem.Challenge.rw_ku0026_01.row.prog w) (A.deeper (envOfC (Str.ofString "law") (stScope law1) L fa cd)) (execs (stBody law1) (envOfC (Str.ofString "law") (stScope law1) L fa cd)) Q E s := by
  obtain ⟨hd, dp, fr, gd, un⟩ := A
  dsimp only at hh hdp hun
  subst hh
  (rename Frag.In _ _ => X'; revert X'; k_fill; intro X')
  rename Frag.In _ G0 => X'
  conv in (occs := *) (stScope law1) => all_goals whnf
  conv in (stBody law1) => whnf
  (try dsimp only)
  k_unmd
  have hlv := hI.length
  k_steps
  unfold StopHere
  rename Fr _ _ _ _ => F4
  rename News _ _ _ _ => N4
  refine kmk_slice_ints (s := ⟨_, _, _, _, _⟩) F4 N4 (isList_news N4 (by k_mem)) (by kmk_part) (by kmk_part) (ns := [4, 32, 67, 4, 32, 67, 2, 0]) (.cons _ _ (.cons _ _ (.cons _ _ (.cons _ _ (.cons _ _ (.cons _ _ (.cons _ _ (.cons _ _ .nil)))))))) (kmk_from (.cons _ _ (.cons _ _ (.cons _ _ (.cons _ _ (.cons _ _ (.cons _ _ (.cons _ _ (.cons _ _ .nil)))))))) (by omega)) rfl ?_ (by with_unfolding_all rfl) (by kmk_pure) (by rw [sizeLine_eq]; exact (by decide : 8 ≤ 16777216))
  intro D2 ws2 h2 F5 N5 l2 hw2 _ _
  clear F4 N4
  k_steps
  unfold StopHere
  rename Fr _ _ _ _ => F4
  rename News _ _ _ _ => N4
  rename IntsAre _ (List.take 8 ns) => hw1
  refine kmk_add_ints F4 N4 (isList_news N4 (by k_mem)) (isList_news N4 (by k_mem)) hw1 hw2 ?_ (by rw [sizeLine_eq]; simp only [List.length_take, List.length_drop, List.length_cons, List.length_nil]; omega)
  intro D3 us h3 F6 N6 l3 hu
  rw [Int.toNat_natCast] at hu
  have hlen8 := numL_len ns
  change IntsAre us (numL ns) at hu
  obtain ⟨x0, x1, x2, x3, x4, x5, x6, x7, ex⟩ := len8I hlen8
  rw [ex] at hu
  obtain ⟨t0, t1, t2, t3, t4, t5, t6, t7, rfl⟩ := ints8 hu
  have N7 : News G0 L h3 [(D3, _), (L + 1 + 1 + 1 + 1 + 1, oR), (L + 1 + 1 + 1 + 1, oS), (L + 1 + 1 + 1, oF), (L + 1 + 1, oO), (L + 1, oT), (180, tabObj #[]), (61, tabObj #[]), (54, tabObj #[])] := fun p hp => N6 p (by
    rcases List.mem_cons.mp hp with rfl | hp
    · exact .head _
    · exact .tail _ (.tail _ (.tail _ (.tail _ hp))))
  clear F4 N4 N6 hw1 hw2 hu
  have l3' := allLt_of l3
  simp only [AllLt, and_true] at l3'
  clear l3
  k_steps
  unfold StopHere
  rename Fr _ _ _ _ => F4
  rename News _ _ _ _ => N4
  refine LCg.ListComp_U (F₀ := F4) (by with_unfolding_all rfl) (by decide) (by rfl) (by decide) (by rfl) ?_
  k_steps
  unfold StopHere
  rename Fr _ _ _ _ => F4
  rename News _ _ _ _ => N4
  refine LCg.CompSrc.ledger (by rfl) F4 N4 (by k_mem) (by rw [sizeLine_eq]; exact (by decide : 6 ≤ 16777216)) ?_
  intro g'
  clear F4 N4
  refine comp_mapF (xs := [x0, x1, x2, x3, x4, x5]) (fun k => k % 256) (.cons _ _ (.cons _ _ (.cons _ _ (.cons _ _ (.cons _ _ (.cons _ _ .nil)))))) ?_ ?_
  · intro k tt I oI C oC D m₂ ys h tk E' hC hx F5 N5 off ne
    k_steps
    unfold StopHere
    rename Fr _ _ _ _ => F6
    rename News _ _ _ _ => N6
    exact LCg.CompEnd.intro F6 N6 _ (fun p hp => hp) off (.inr ⟨_, .head _, rfl, _, rfl⟩) ⟨rfl, _, by rw [Int.fmod_eq_emod_of_nonneg _ (by decide)]⟩
  · intro ys hys
    intro D4 h4 tk4 F6 N6 off1
    have hox := mods_in [x0, x1, x2, x3, x4, x5]
    obtain ⟨ox, hoe⟩ : ∃ ox, ox = [x0, x1, x2, x3, x4, x5].map fun k => k % 256 := ⟨_, rfl⟩
    have hol : ox.length = 6 := by rw [hoe]; rfl
    rw [← hoe] at hys hox
    clear off1 l2
    k_steps
    unfold StopHere
    rename Fr _ _ _ _ => F6
    rename News _ _ _ _ => N6
    refine KBa.make_K F6 N6 rfl (isList_news N6 (by k_mem)) hys hox (by rw [hol]; decide) ?_
    intro h5 tb kb F7 N7 _
    have N8 := news_tail (news_tail N7)
    clear F6 N6 N7
    k_steps
    unfold StopHere
    rename Fr _ _ _ _ => F6
    rename News _ _ _ _ => N6
    refine c_encode hol hox rfl (le_up hdp (by decide) : dp + 1 ≤ 480) (X'.keeps F6.keep) (T'.keeps F6.keep) ?_
    have hA8 := wr8_ascii' hox hol
    have hL8 := wr8_len' hox hol
    obtain ⟨Tx, hTx⟩ : ∃ Tx, Tx = wr8 ox := ⟨_, rfl⟩
    rw [← hTx] at hA8 hL8 ⊢
    intro t8 h6 tk6 st6
    have F7 := F6.keeps st6
    have N7 := N6.grown st6
    clear F6 N6
    k_steps
    unfold StopHere
    rename Fr _ _ _ _ => F6
    rename News _ _ _ _ => N6
    rename Obj => oT1
    rename oT1.data = _ => dT1
    change wpAny _ _ (call (.ref 204) [_, .int (x6.fmod 8) _, .int (x7.fmod 3) _]) _ _ _
    obtain ⟨nn, hnn⟩ : ∃ nn, nn = x6.fmod 8 := ⟨_, rfl⟩
    obtain ⟨kk, hkk⟩ : ∃ kk, kk = x7.fmod 3 := ⟨_, rfl⟩
    rw [← hnn, ← hkk]
    rw [Int.fmod_eq_emod_of_nonneg _ (by decide)] at hnn hkk
    have hn0 : 0 ≤ nn := by omega
    have hn8 : nn < 8 := by omega
    have hk0 : 0 ≤ kk := by omega
    have hk3 : kk < 3 := by omega
    obtain ⟨nN, rfl⟩ := Int.eq_ofNat_of_zero_le hn0
    have hnN : nN < 8 := by omega
    refine c_law_other hL8 hn0 hn8 hk0 hk3 rfl (le_up hdp (by decide) : dp + 1 ≤ 480) (X'.keeps F6.keep) (T'.keeps F6.keep) ?_
    intro t9 h7 tk7 st7
    have F7 := F6.keeps st7
    have N7 := N6.grown st7
    clear F6 N6
    obtain ⟨Ox, hOx⟩ : ∃ Ox, Ox = otherL Tx (nN : Int) kk := ⟨_, rfl⟩
    rw [← hOx]
    obtain ⟨U, hU⟩ : ∃ U, U = unb64 (Ox.map fun c : Nat => b64v (c : Int)) := ⟨_, rfl⟩
    obtain ⟨F1, hF⟩ : ∃ F1, F1 = undigs 8 ox.reverse := ⟨_, rfl⟩
    obtain ⟨S2, hS2⟩ : ∃ S2, S2 = undigs 8 U.reverse := ⟨_, rfl⟩
    obtain ⟨⟨hF0, hF1⟩, ⟨hS0, hS1⟩, hO8, hTL, hOL, hOv, hUi, hUl, hturn, hrest, hsum⟩ := plain_all hol hox hnN kk hF hTx hOx hU hS2
    clear hys hnn hkk hn0 hn8 hk0 hk3
    k_steps
    unfold StopHere
    rename Fr _ _ _ _ => F4
    rename News _ _ _ _ => N4
    refine LCg.ListComp_U (F₀ := F4) (by with_unfolding_all rfl) (by decide) (by rfl) (by decide) (by rfl) ?_
    k_steps
    unfold StopHere
    rename Fr _ _ _ _ => F4
    rename News _ _ _ _ => N4
    refine LCg.CompSrc.ledger (by rfl) F4 N4 (by k_mem) (by rw [sizeLine_eq]; exact (by decide : 6 ≤ 16777216)) ?_
    intro g2
    clear F4 N4
    refine comp_mapF (xs := [x0, x1, x2, x3, x4, x5]) (fun k => k % 256) (.cons _ _ (.cons _ _ (.cons _ _ (.cons _ _ (.cons _ _ (.cons _ _ .nil)))))) ?_ ?_
    · intro k tt I oI C oC D m₂ ys h tk E' hC hx F5 N5 off ne
      k_steps
      unfold StopHere
      rename Fr _ _ _ _ => F6
      rename News _ _ _ _ => N6
      exact LCg.CompEnd.intro F6 N6 _ (fun p hp => hp) off (.inr ⟨_, .head _, rfl, _, rfl⟩) ⟨rfl, _, by rw [Int.fmod_eq_emod_of_nonneg _ (by decide)]⟩
    · intro zs hzs
      intro D5 h8 tk8 F6 N6 off1
      rw [← hoe] at hzs
      clear off1
      k_steps
      unfold StopHere
      rename Obj => oO1
      rename oO1.data = _ => dO1
      rename Fr _ _ _ _ => F6
      rename News _ _ _ _ => N6
      refine krv_ints (s := ⟨_, _, _, _, _⟩) F6 N6 (isList_news N6 (by k_mem)) (by kmk_part) hzs ?_ (by with_unfolding_all rfl) (by kmk_pure) (by rw [sizeLine_eq, List.size_toArray, hzs.length, hol]; decide)
      intro D6 ws6 h9 F7 N7 l6 hw6 _
      have oD6 : ∀ p ∈ lawCells L oR oS oF oO1 oT1, p.1 ≠ D6 := fun p hp => Nat.ne_of_lt (l6 p (.tail _ (.tail _ (.tail _ (List.mem_append_left _ hp)))))
      clear l6 F6 N6 l3'
      k_steps
      unfold StopHere
      rename Fr _ _ _ _ => F6
      rename News _ _ _ _ => N6
      have o54 := cells_54 (oR := oR) (oS := oS) (oF := oF) (oO := oO1) (oT := oT1) l180
      have o61 := cells_61 (oR := oR) (oS := oS) (oF := oF) (oO := oO1) (oT := oT1) l180
      have N8 := news_pick (lawCells L oR oS oF oO1 oT1 ++ [(D6, listOf ws6.toArray 0), (54, tabObj #[]), (61, tabObj #[])]) N6 (by
        intro p hp
        simp only [lawCells, List.cons_append, List.nil_append, List.mem_cons, List.not_mem_nil, or_false] at hp
        rcases hp with rfl | rfl | rfl | rfl | rfl | rfl | rfl | rfl | rfl <;> k_mem)
      clear N6
      have up := td_up F6 N8 (p := #[]) (q := #[]) (c5 := 54) (o5 := tabObj #[]) (c6 := 61) (o6 := tabObj #[]) (D := D6) (oD := listOf ws6.toArray 0) (by k_mem) (by k_mem) (by k_mem) (by k_mem) (by k_mem)
      have S5 : St54 (tabD h9 54 61 D6) h9 := .inl (N8 (54, tabObj #[]) (by k_mem)).1
      have S6 : St61 (tabD h9 54 61 D6) h9 := .inl (N8 (61, tabObj #[]) (by k_mem)).1
      refine c_digits2int (n := 8) (X'.keeps up) (T'.keeps up) (C65.keeps up) td_stays td_61 S6 rfl (le_up hdp (by decide) : dp + 1 ≤ 390) (le_up hun (by decide) : un + 3 ≤ 5000) (by decide) (by decide) (N8 (D6, _) (by k_mem)).1 td_D hw6 (by rw [List.length_reverse, hol]; decide) (octet_bd hox) (by rw [List.length_reverse, hol]; decide) ?_
      rw [← hF]
      intro tA hA tkA hkA SA
      obtain ⟨F8, ps, c5, o5, qs, c6, o6, TL, N9, b5, b6⟩ := tl_go3 (G0 := G0) 6 up F6 N8 (p := #[]) (q := #[]) (by k_mem) (by k_mem) (fun b o _ h => hkA b o h) (S5.but S6 (by decide) hkA) SA (neN (by omega)) (neN (by omega)) o54 o61 (fun x hx => td_get (N8 x (List.mem_of_mem_take hx)).1 (o54 x hx) (o61 x hx) (o54 x hx) (o61 x hx) (oD6 x hx))
      change AllNe c5 (lawCells L oR oS oF oO1 oT1) at b5
      change AllNe c6 (lawCells L oR oS oF oO1 oT1) at b6
      simp only [lawCells, AllNe, and_true] at b5 b6
      simp only [List.take, lawCells, tl4, List.cons_append, List.nil_append] at N9
      clear F6 N8 up S5 S6 SA hkA
      k_steps
      unfold StopHere
      rename Fr _ _ _ _ => F6
      rename News _ _ _ _ => N6
      rename Obj => oF1
      rename oF1.data = _ => dF1
      exact lawA2 (s := ⟨_, _, _, _, _⟩) (A := ⟨none, dp, fr, gd, un⟩) X' T' C58 C65 rfl hdp hun l180 hL8 hTL hO8 hOL hOv hU hUi hUl hS2 hF0 hF1 hS0 hS1 hturn hrest hsum F6 N6 TL ⟨b5.1, b5.2.1, b5.2.2.1, b5.2.2.2.1, b5.2.2.2.2.1, b5.2.2.2.2.2, trivial⟩ ⟨b6.1, b6.2.1, b6.2.2.1, b6.2.2.2.1, b6.2.2.2.2.1, b6.2.2.2.2.2, trivial⟩
        dR dS dF1 dO1 dT1 fun h' tk m' f g1 g2 g3 => hQ h' tk m' f g1 g2 g3
end
end LA

theorem fr_top {g h : Heap} {L : Addr} {m : Str → Option Value} {x : Str} {v : Value} (F : Fr g L h m) (hx : m x = some v) : Fr g L h (fun y => if y = x then some v else m y) := by
  have e : (fun y => if y = x then some v else m y) = m := by
    funext y
    by_cases e : y = x
    · rw [if_pos e, e, hx]
    · rw [if_neg e]
  rw [e]
  exact F

end Mine
set_option maxRecDepth 100000 in
set_option maxHeartbeats 8000000 in
theorem PySem.Challenge.cw_ku0026_01_holds : PySem.Challenge.rw_ku0026_01.Holds := by
  refine Mine.hd ?_
  unfold Mine.LH.H Mine.LH.row
  k_fill
  intro w s₀ s₁ mg mb G Y fa o pm cd doc dV kV ho hd hcd hD hmg hg args vals as hpre hlay hrd hwl hlo
  have KX := km_in_of Y
  km_tabs Y
  have X := (Ground.X G).1
  have V := (Ground.X G).2
  refine Ground.open G ?_
  intro T B D TE TW
  try (refine guard_noD D (by decide +kernel) ?_; clear D)
  replace hmg : mg (Str.ofString "law") = some (Value.ref fa) := hmg
  km_lay T hmg ho hd cd
  clear hmg
  wrow_args hpre hlay hrd hwl hlo
  all_goals (
    first | refine callC_kw (enter_call ?_) | refine enter_call ?_
    w_top on
    kn_posts
    w_call any ho hd hcd hD T F
    clear hd
    kn_ghosts F T
    k_drop
    skip)
  rename (_ : Obj).data = Data.cell (bindC _ _ _ (Str.ofString "ring")) => dR
  rename (_ : Obj).data = Data.cell (bindC _ _ _ (Str.ofString "second")) => dS
  rename (_ : Obj).data = Data.cell (bindC _ _ _ (Str.ofString "first")) => dF
  rename (_ : Obj).data = Data.cell (bindC _ _ _ (Str.ofString "other")) => dO
  rename (_ : Obj).data = Data.cell (bindC _ _ _ (Str.ofString "text")) => dT
  rename Frag.In _ (ghostOf _ _) => X'
  rename Top _ _ _ _ _ (ghostOf _ _) => T'
  rename Fr _ _ _ _ => F'
  rename News _ _ _ _ => N'
  rename IntsAre _ _ => hI
  rename _ ∧ _ ∧ _ => l0
  refine Mine.lawA X' T' (by assumption) (by assumption) rfl (by decide) (by decide) l0.1 lifted hI (by omega) (Mine.fr_top F' (by kernel_rfl)) N' (dR.trans (by kernel_rfl)) (dS.trans (by kernel_rfl)) (dF.trans (by kernel_rfl)) (dO.trans (by kernel_rfl)) (dT.trans (by kernel_rfl)) ?_
  intro h' tk m' F g1 g2 g3
  refine ⟨goodW_bool F (by assumption) (fun _ => rfl) (by kernel_rfl), g1, g2, g3, trivial⟩
