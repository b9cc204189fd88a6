import PyProof.Rows.All
import Wide.All
import OpenK.AllK
import Wide.FinOn
import PySem.Challenge.RW_xo0027_01
open PySem PySem.W PyProof.Rows PySem.Calls PySem.Spec
set_option Elab.async false
set_option maxRecDepth 100000
namespace Mine
section
local macro_rules | `(tactic| o_head $_) => `(tactic| assumption)
theorem hdK (h : PySem.Challenge.rw_xo0027_01.row.Holds) : PySem.Challenge.rw_xo0027_01.row.Holds := by k_head
end
namespace Hd
noncomputable def lk (l : List (Nat × Obj)) (a : Nat) : Obj := @List.rec (Nat × Obj) (fun _ => Obj) default (fun p _ ih => @Bool.rec (fun _ => Obj) ih p.2 (Nat.beq p.1 a)) l
noncomputable def fr (P : Params) (a : Nat) : Obj := lk (hdK.heap_1 P) a
noncomputable def bare (o : Obj) : Obj := match o.data with
  | .func f => { cls := .none, data := .func { f with globals := 0, closure := [], defaults := .none, pyModule := .none, code := .none, closureTuple := .none } }
  | _ => o
noncomputable def cut3 (P : Params) (k : Nat) : Obj := match (fr P 3).data with
  | .dict es _ => { cls := .type "dict", data := .dict (match es.toList.take k with | e :: r => { e with val := .str (Str.ofString "cpy313.email.header") 217 } :: r | [] => []).toArray k }
  | _ => fr P 3
noncomputable def all12 : List Value := [.int 1 0, .int 0 0, .ref 20, .int 5 0, .int 0 0, .ref 27, .int 7 0, .int 0 0, .ref 34, .int 26 0, .int 0 0, .ref 41, .int 45 0, .int 0 0, .ref 49, .int 128 0, .int 0 0, .ref 135, .int 141 0, .int 0 0, .ref 142, .int 154 0, .int 0 0, .ref 147, .int 159 0, .int 0 0, .ref 152, .int 180 0, .int 0 0, .ref 159, .int 190 0, .int 0 0, .ref 164, .int 217 0, .int 0 0, .ref 171]
noncomputable def cut12 (k : Nat) : Obj := { cls := .none, data := .fields (all12.take k).toArray }
noncomputable def ob11 : Obj := { cls := Value.type "tuple", data := Data.seq #[] }
noncomputable def ob13 : Obj := { cls := Value.type "code", data := Data.fields #[Value.str (Str.ofString "<module>") 182, Value.str (Str.ofString "<module>") 183, Value.str (Str.ofString "/claim/cut.py") 184, Value.int 1 0, Value.int 0 0, Value.int 0 0, Value.int 0 0, Value.int 0 0, Value.ref 11, Value.bool false, Value.int 181 0, Value.ref 12, Value.none, Value.none, Value.none, Value.none, Value.int 185 0, Value.int 1 0, Value.str (Str.ofString "/claim/cut.py") 186] }
noncomputable def ob14 : Obj := { cls := Value.type "frame", slots := #[some (Value.ref 13), some (Value.ref 3), some (Value.ref 3), none, some (Value.str (Str.ofString "__main__") 164), none, some (Value.ref 0)] }
noncomputable def ob16 : Obj := { cls := Value.none, data := Data.fields #[] }
noncomputable def ob23 : Obj := { cls := Value.none, data := Data.fields #[] }
noncomputable def ob30 : Obj := { cls := Value.none, data := Data.fields #[] }
noncomputable def ob37 : Obj := { cls := Value.none, data := Data.fields #[] }
noncomputable def ob44 : Obj := { cls := Value.type "builtin_function_or_method", data := Data.fields #[Value.builtin "type.__prepare__", Value.type "type"] }
noncomputable def ob45 (P : Params) : Obj := { cls := Value.type "dict", data := Data.dict #[{ hash := PyData.keyHash P (Str.ofString "__module__"), key := Value.str (Str.ofString "__module__") 228, val := Value.str (Str.ofString "cpy313.email.header") 217 }, { hash := PyData.keyHash P (Str.ofString "__qualname__"), key := Value.str (Str.ofString "__qualname__") 230, val := Value.str (Str.ofString "_Accumulator") 229 }, { hash := PyData.keyHash P (Str.ofString "__firstlineno__"), key := Value.str (Str.ofString "__firstlineno__") 232, val := Value.int 45 231 }, { hash := PyData.keyHash P (Str.ofString "__init__"), key := Value.str (Str.ofString "__init__") 242, val := Value.ref 59 }, { hash := PyData.keyHash P (Str.ofString "push"), key := Value.str (Str.ofString "push") 251, val := Value.ref 66 }, { hash := PyData.keyHash P (Str.ofString "pop_from"), key := Value.str (Str.ofString "pop_from") 261, val := Value.ref 74 }, { hash := PyData.keyHash P (Str.ofString "pop"), key := Value.str (Str.ofString "pop") 269, val := Value.ref 82 }, { hash := PyData.keyHash P (Str.ofString "__len__"), key := Value.str (Str.ofString "__len__") 276, val := Value.ref 89 }, { hash := PyData.keyHash P (Str.ofString "__str__"), key := Value.str (Str.ofString "__str__") 283, val := Value.ref 96 }, { hash := PyData.keyHash P (Str.ofString "reset"), key := Value.str (Str.ofString "reset") 291, val := Value.ref 104 }, { hash := PyData.keyHash P (Str.ofString "is_onlyws"), key := Value.str (Str.ofString "is_onlyws") 298, val := Value.ref 111 }, { hash := PyData.keyHash P (Str.ofString "part_count"), key := Value.str (Str.ofString "part_count") 306, val := Value.ref 119 }, { hash := PyData.keyHash P (Str.ofString "__static_attributes__"), key := Value.str (Str.ofString "__static_attributes__") 308, val := Value.ref 120 }, { hash := PyData.keyHash P (Str.ofString "__classcell__"), key := Value.str (Str.ofString "__classcell__") 309, val := Value.ref 46 }] 14 }
noncomputable def ob47 : Obj := { cls := Value.type "tuple", data := Data.seq #[] }
noncomputable def ob48 : Obj := { cls := Value.none, data := Data.fields #[Value.int 47 0, Value.int 4 0, Value.ref 58, Value.int 51 0, Value.int 4 0, Value.ref 65, Value.int 54 0, Value.int 4 0, Value.ref 73, Value.int 59 0, Value.int 4 0, Value.ref 81, Value.int 64 0, Value.int 4 0, Value.ref 88, Value.int 67 0, Value.int 4 0, Value.ref 95, Value.int 70 0, Value.int 4 0, Value.ref 103, Value.int 73 0, Value.int 4 0, Value.ref 110, Value.int 76 0, Value.int 4 0, Value.ref 118] }
noncomputable def ob49 : Obj := { cls := Value.type "code", data := Data.fields #[Value.str (Str.ofString "_Accumulator") 223, Value.str (Str.ofString "_Accumulator") 224, Value.str (Str.ofString "/claim/cut.py") 225, Value.int 45 0, Value.int 0 0, Value.int 0 0, Value.int 0 0, Value.int 0 0, Value.ref 47, Value.bool false, Value.int 181 0, Value.ref 48, Value.none, Value.none, Value.none, Value.none, Value.int 226 0, Value.int 45 0, Value.str (Str.ofString "/claim/cut.py") 227] }
noncomputable def ob50 : Obj := { cls := Value.type "frame", slots := #[some (Value.ref 49), some (Value.ref 3), some (Value.ref 45), none, some (Value.str (Str.ofString "cpy313.email.header") 217), none, some (Value.ref 0)] }
noncomputable def ob54 : Obj := { cls := Value.none, data := Data.fields #[] }
noncomputable def ob61 : Obj := { cls := Value.none, data := Data.fields #[] }
noncomputable def ob69 : Obj := { cls := Value.none, data := Data.fields #[] }
noncomputable def ob77 : Obj := { cls := Value.none, data := Data.fields #[] }
noncomputable def ob84 : Obj := { cls := Value.none, data := Data.fields #[] }
noncomputable def ob91 : Obj := { cls := Value.none, data := Data.fields #[] }
noncomputable def ob99 : Obj := { cls := Value.none, data := Data.fields #[] }
noncomputable def ob106 : Obj := { cls := Value.none, data := Data.fields #[] }
noncomputable def ob114 : Obj := { cls := Value.none, data := Data.fields #[] }
noncomputable def ob125 : Obj := { cls := Value.type "super", data := Data.fields #[Value.ref 122, Value.ref 122, Value.ref 122] }
noncomputable def ob126 : Obj := { cls := Value.type "builtin_function_or_method", data := Data.fields #[Value.builtin "object.__init_subclass__", Value.ref 122] }
noncomputable def ob128 (P : Params) : Obj := { cls := Value.type "dict", data := Data.dict #[{ hash := PyData.keyHash P (Str.ofString "->"), key := Value.str (Str.ofString "->") 447, val := Value.int 51 405 }, { hash := PyData.keyHash P (Str.ofString "."), key := Value.str (Str.ofString ".") 449, val := Value.int 23 349 }, { hash := PyData.keyHash P (Str.ofString "..."), key := Value.str (Str.ofString "...") 451, val := Value.int 52 407 }, { hash := PyData.keyHash P (Str.ofString "/"), key := Value.str (Str.ofString "/") 453, val := Value.int 17 337 }, { hash := PyData.keyHash P (Str.ofString "//"), key := Value.str (Str.ofString "//") 455, val := Value.int 47 397 }, { hash := PyData.keyHash P (Str.ofString "//="), key := Value.str (Str.ofString "//=") 457, val := Value.int 48 399 }, { hash := PyData.keyHash P (Str.ofString "/="), key := Value.str (Str.ofString "/=") 459, val := Value.int 39 381 }, { hash := PyData.keyHash P (Str.ofString ":"), key := Value.str (Str.ofString ":") 461, val := Value.int 11 325 }, { hash := PyData.keyHash P (Str.ofString ":="), key := Value.str (Str.ofString ":=") 463, val := Value.int 53 409 }, { hash := PyData.keyHash P (Str.ofString ";"), key := Value.str (Str.ofString ";") 465, val := Value.int 13 329 }, { hash := PyData.keyHash P (Str.ofString "<"), key := Value.str (Str.ofString "<") 467, val := Value.int 20 343 }, { hash := PyData.keyHash P (Str.ofString "<<"), key := Value.str (Str.ofString "<<") 469, val := Value.int 33 369 }, { hash := PyData.keyHash P (Str.ofString "<<="), key := Value.str (Str.ofString "<<=") 471, val := Value.int 44 391 }, { hash := PyData.keyHash P (Str.ofString "<="), key := Value.str (Str.ofString "<=") 473, val := Value.int 29 361 }, { hash := PyData.keyHash P (Str.ofString "="), key := Value.str (Str.ofString "=") 475, val := Value.int 22 347 }, { hash := PyData.keyHash P (Str.ofString "=="), key := Value.str (Str.ofString "==") 477, val := Value.int 27 357 }, { hash := PyData.keyHash P (Str.ofString ">"), key := Value.str (Str.ofString ">") 479, val := Value.int 21 345 }] 17 }
noncomputable def ob129 (P : Params) : Obj := { cls := Value.type "dict", data := Data.dict #[{ hash := PyData.keyHash P (Str.ofString ">="), key := Value.str (Str.ofString ">=") 481, val := Value.int 30 363 }, { hash := PyData.keyHash P (Str.ofString ">>"), key := Value.str (Str.ofString ">>") 482, val := Value.int 34 371 }, { hash := PyData.keyHash P (Str.ofString ">>="), key := Value.str (Str.ofString ">>=") 483, val := Value.int 45 393 }, { hash := PyData.keyHash P (Str.ofString "@"), key := Value.str (Str.ofString "@") 484, val := Value.int 49 401 }, { hash := PyData.keyHash P (Str.ofString "@="), key := Value.str (Str.ofString "@=") 485, val := Value.int 50 403 }, { hash := PyData.keyHash P (Str.ofString "["), key := Value.str (Str.ofString "[") 486, val := Value.int 9 321 }, { hash := PyData.keyHash P (Str.ofString "]"), key := Value.str (Str.ofString "]") 487, val := Value.int 10 323 }, { hash := PyData.keyHash P (Str.ofString "^"), key := Value.str (Str.ofString "^") 488, val := Value.int 32 367 }, { hash := PyData.keyHash P (Str.ofString "^="), key := Value.str (Str.ofString "^=") 489, val := Value.int 43 389 }, { hash := PyData.keyHash P (Str.ofString "{"), key := Value.str (Str.ofString "{") 490, val := Value.int 25 353 }, { hash := PyData.keyHash P (Str.ofString "|"), key := Value.str (Str.ofString "|") 491, val := Value.int 18 339 }, { hash := PyData.keyHash P (Str.ofString "|="), key := Value.str (Str.ofString "|=") 492, val := Value.int 42 387 }, { hash := PyData.keyHash P (Str.ofString "}"), key := Value.str (Str.ofString "}") 493, val := Value.int 26 355 }, { hash := PyData.keyHash P (Str.ofString "~"), key := Value.str (Str.ofString "~") 494, val := Value.int 31 365 }] 14 }
noncomputable def ob131 : Obj := { cls := Value.none, data := Data.fields #[] }
noncomputable def ob138 : Obj := { cls := Value.none, data := Data.fields #[] }
noncomputable def ob145 : Obj := { cls := Value.none, data := Data.fields #[] }
noncomputable def ob150 : Obj := { cls := Value.none, data := Data.fields #[] }
noncomputable def ob155 : Obj := { cls := Value.none, data := Data.fields #[] }
noncomputable def ob162 : Obj := { cls := Value.none, data := Data.fields #[] }
noncomputable def ob167 : Obj := { cls := Value.none, data := Data.fields #[] }
noncomputable def trA (P : Params) : BT := (.node (boot_o_0 P) (.node (boot_o_1 P) (.node (boot_o_3 P) (.node (boot_o_7 P) .nil .nil) (.node ob11 .nil .nil)) (.node (boot_o_5 P) (.node (boot_o_9 P) .nil .nil) (.node ob13 .nil .nil))) (.node (boot_o_2 P) (.node (boot_o_4 P) (.node (boot_o_8 P) .nil .nil) (.node (cut12 0) .nil .nil)) (.node (boot_o_6 P) (.node (boot_o_10 P) .nil .nil) (.node ob14 .nil .nil))))
noncomputable def stA (w : World) (os : OsState) : SharedT := ⟨trA w.params, 15, {}, Array.mk [], {}, 187, os⟩
noncomputable def trB (P : Params) : BT := (.node (boot_o_0 P) (.node (boot_o_1 P) (.node (cut3 P 15) (.node (boot_o_7 P) (.node (fr P 15) (.node (fr P 31) (.node (fr P 63) .nil .nil) (.node (fr P 95) .nil .nil)) (.node ob47 (.node (fr P 79) .nil .nil) (.node (fr P 111) .nil .nil))) (.node ob23 (.node (fr P 39) (.node (fr P 71) .nil .nil) (.node (fr P 103) .nil .nil)) (.node (fr P 55) (.node (bare (fr P 89)) .nil .nil) (.node (fr P 119) .nil .nil)))) (.node ob11 (.node (bare (fr P 21)) (.node (fr P 35) (.node (fr P 67) .nil .nil) (.node ob99 .nil .nil)) (.node (fr P 51) (.node (fr P 83) .nil .nil) (.node (fr P 115) .nil .nil))) (.node (fr P 27) (.node (fr P 43) (.node (fr P 75) .nil .nil) (.node (fr P 107) .nil .nil)) (.node (fr P 59) (.node ob91 .nil .nil) (.node (fr P 123) .nil .nil))))) (.node (boot_o_5 P) (.node (boot_o_9 P) (.node (fr P 17) (.node (bare (fr P 35)) (.node (fr P 65) .nil .nil) (.node (fr P 97) .nil .nil)) (.node ob49 (.node (fr P 81) .nil .nil) (.node (fr P 113) .nil .nil))) (.node (fr P 25) (.node (fr P 41) (.node (fr P 73) .nil .nil) (.node (fr P 105) .nil .nil)) (.node (bare (fr P 59)) (.node (fr P 89) .nil .nil) (.node (fr P 121) .nil .nil)))) (.node ob13 (.node (fr P 21) (.node ob37 (.node ob69 .nil .nil) (.node (fr P 101) .nil .nil)) (.node (fr P 53) (.node (fr P 85) .nil .nil) (.node (bare (fr P 119)) .nil .nil))) (.node (fr P 29) (.node (ob45 P) (.node ob77 .nil .nil) (.node (bare (fr P 111)) .nil .nil)) (.node ob61 (.node (fr P 93) .nil .nil) (.node ob125 .nil .nil)))))) (.node (boot_o_2 P) (.node (boot_o_4 P) (.node (boot_o_8 P) (.node ob16 (.node (fr P 32) (.node (bare (fr P 66)) .nil .nil) (.node (fr P 96) .nil .nil)) (.node ob48 (.node (bare (fr P 82)) .nil .nil) (.node (fr P 112) .nil .nil))) (.node (fr P 24) (.node (bare (fr P 42)) (.node (bare (fr P 74)) .nil .nil) (.node (fr P 104) .nil .nil)) (.node (fr P 56) (.node (fr P 88) .nil .nil) (.node (fr P 120) .nil .nil)))) (.node (cut12 15) (.node (fr P 20) (.node (fr P 36) (.node (fr P 68) .nil .nil) (.node (fr P 100) .nil .nil)) (.node (fr P 52) (.node ob84 .nil .nil) (.node (fr P 116) .nil .nil))) (.node (fr P 28) (.node ob44 (.node (fr P 76) .nil .nil) (.node (fr P 108) .nil .nil)) (.node (fr P 60) (.node (fr P 92) .nil .nil) (.node (fr P 124) .nil .nil))))) (.node (boot_o_6 P) (.node (boot_o_10 P) (.node (fr P 18) (.node (fr P 34) (.node (fr P 66) .nil .nil) (.node (fr P 98) .nil .nil)) (.node ob50 (.node (fr P 82) .nil .nil) (.node ob114 .nil .nil))) (.node (bare (fr P 28)) (.node (fr P 42) (.node (fr P 74) .nil .nil) (.node ob106 .nil .nil)) (.node (fr P 58) (.node (fr P 90) .nil .nil) (.node (fr P 122) .nil .nil)))) (.node ob14 (.node (fr P 22) (.node (fr P 38) (.node (fr P 70) .nil .nil) (.node (bare (fr P 104)) .nil .nil)) (.node ob54 (.node (fr P 86) .nil .nil) (.node (fr P 118) .nil .nil))) (.node ob30 (.node (fr P 46) (.node (fr P 78) .nil .nil) (.node (fr P 110) .nil .nil)) (.node (fr P 62) (.node (bare (fr P 96)) .nil .nil) (.node ob126 .nil .nil)))))))
noncomputable def stB (w : World) (os : OsState) : SharedT := ⟨trB w.params, 127, {}, Array.mk [], {}, 317, os⟩
noncomputable def trC (P : Params) : BT := (.node (boot_o_0 P) (.node (boot_o_1 P) (.node (cut3 P 63) (.node (boot_o_7 P) (.node (fr P 15) (.node (fr P 31) (.node (fr P 63) .nil .nil) (.node (fr P 95) .nil .nil)) (.node ob47 (.node (fr P 79) .nil .nil) (.node (fr P 111) .nil .nil))) (.node ob23 (.node (fr P 39) (.node (fr P 71) .nil .nil) (.node (fr P 103) .nil .nil)) (.node (fr P 55) (.node (bare (fr P 89)) .nil .nil) (.node (fr P 119) .nil .nil)))) (.node ob11 (.node (bare (fr P 21)) (.node (fr P 35) (.node (fr P 67) .nil .nil) (.node ob99 .nil .nil)) (.node (fr P 51) (.node (fr P 83) .nil .nil) (.node (fr P 115) .nil .nil))) (.node (fr P 27) (.node (fr P 43) (.node (fr P 75) .nil .nil) (.node (fr P 107) .nil .nil)) (.node (fr P 59) (.node ob91 .nil .nil) (.node (fr P 123) .nil .nil))))) (.node (boot_o_5 P) (.node (boot_o_9 P) (.node (fr P 17) (.node (bare (fr P 35)) (.node (fr P 65) .nil .nil) (.node (fr P 97) .nil .nil)) (.node ob49 (.node (fr P 81) .nil .nil) (.node (fr P 113) .nil .nil))) (.node (fr P 25) (.node (fr P 41) (.node (fr P 73) .nil .nil) (.node (fr P 105) .nil .nil)) (.node (bare (fr P 59)) (.node (fr P 89) .nil .nil) (.node (fr P 121) .nil .nil)))) (.node ob13 (.node (fr P 21) (.node ob37 (.node ob69 .nil .nil) (.node (fr P 101) .nil .nil)) (.node (fr P 53) (.node (fr P 85) .nil .nil) (.node (bare (fr P 119)) .nil .nil))) (.node (fr P 29) (.node (ob45 P) (.node ob77 .nil .nil) (.node (bare (fr P 111)) .nil .nil)) (.node ob61 (.node (fr P 93) .nil .nil) (.node ob125 .nil .nil)))))) (.node (boot_o_2 P) (.node (boot_o_4 P) (.node (boot_o_8 P) (.node ob16 (.node (fr P 32) (.node (bare (fr P 66)) .nil .nil) (.node (fr P 96) .nil .nil)) (.node ob48 (.node (bare (fr P 82)) .nil .nil) (.node (fr P 112) .nil .nil))) (.node (fr P 24) (.node (bare (fr P 42)) (.node (bare (fr P 74)) .nil .nil) (.node (fr P 104) .nil .nil)) (.node (fr P 56) (.node (fr P 88) .nil .nil) (.node (fr P 120) .nil .nil)))) (.node (cut12 15) (.node (fr P 20) (.node (fr P 36) (.node (fr P 68) .nil .nil) (.node (fr P 100) .nil .nil)) (.node (fr P 52) (.node ob84 .nil .nil) (.node (fr P 116) .nil .nil))) (.node (fr P 28) (.node ob44 (.node (fr P 76) .nil .nil) (.node (fr P 108) .nil .nil)) (.node (fr P 60) (.node (fr P 92) .nil .nil) (.node (fr P 124) .nil .nil))))) (.node (boot_o_6 P) (.node (boot_o_10 P) (.node (fr P 18) (.node (fr P 34) (.node (fr P 66) .nil .nil) (.node (fr P 98) .nil .nil)) (.node ob50 (.node (fr P 82) .nil .nil) (.node ob114 .nil .nil))) (.node (bare (fr P 28)) (.node (fr P 42) (.node (fr P 74) .nil .nil) (.node ob106 .nil .nil)) (.node (fr P 58) (.node (fr P 90) .nil .nil) (.node (fr P 122) .nil .nil)))) (.node ob14 (.node (fr P 22) (.node (fr P 38) (.node (fr P 70) .nil .nil) (.node (bare (fr P 104)) .nil .nil)) (.node ob54 (.node (fr P 86) .nil .nil) (.node (fr P 118) .nil .nil))) (.node ob30 (.node (fr P 46) (.node (fr P 78) .nil .nil) (.node (fr P 110) .nil .nil)) (.node (fr P 62) (.node (bare (fr P 96)) .nil .nil) (.node ob126 .nil .nil)))))))
noncomputable def stC (w : World) (os : OsState) : SharedT := ⟨trC w.params, 127, {}, Array.mk [], {}, 413, os⟩
noncomputable def trD (P : Params) : BT := (.node (boot_o_0 P) (.node (boot_o_1 P) (.node (cut3 P 64) (.node (boot_o_7 P) (.node (fr P 15) (.node (fr P 31) (.node (fr P 63) (.node (fr P 127) .nil .nil) .nil) (.node (fr P 95) .nil .nil)) (.node ob47 (.node (fr P 79) .nil .nil) (.node (fr P 111) .nil .nil))) (.node ob23 (.node (fr P 39) (.node (fr P 71) .nil .nil) (.node (fr P 103) .nil .nil)) (.node (fr P 55) (.node (bare (fr P 89)) .nil .nil) (.node (fr P 119) .nil .nil)))) (.node ob11 (.node (bare (fr P 21)) (.node (fr P 35) (.node (fr P 67) .nil .nil) (.node ob99 .nil .nil)) (.node (fr P 51) (.node (fr P 83) .nil .nil) (.node (fr P 115) .nil .nil))) (.node (fr P 27) (.node (fr P 43) (.node (fr P 75) .nil .nil) (.node (fr P 107) .nil .nil)) (.node (fr P 59) (.node ob91 .nil .nil) (.node (fr P 123) .nil .nil))))) (.node (boot_o_5 P) (.node (boot_o_9 P) (.node (fr P 17) (.node (bare (fr P 35)) (.node (fr P 65) (.node (ob129 P) .nil .nil) .nil) (.node (fr P 97) .nil .nil)) (.node ob49 (.node (fr P 81) .nil .nil) (.node (fr P 113) .nil .nil))) (.node (fr P 25) (.node (fr P 41) (.node (fr P 73) .nil .nil) (.node (fr P 105) .nil .nil)) (.node (bare (fr P 59)) (.node (fr P 89) .nil .nil) (.node (fr P 121) .nil .nil)))) (.node ob13 (.node (fr P 21) (.node ob37 (.node ob69 .nil .nil) (.node (fr P 101) .nil .nil)) (.node (fr P 53) (.node (fr P 85) .nil .nil) (.node (bare (fr P 119)) .nil .nil))) (.node (fr P 29) (.node (ob45 P) (.node ob77 .nil .nil) (.node (bare (fr P 111)) .nil .nil)) (.node ob61 (.node (fr P 93) .nil .nil) (.node ob125 .nil .nil)))))) (.node (boot_o_2 P) (.node (boot_o_4 P) (.node (boot_o_8 P) (.node ob16 (.node (fr P 32) (.node (bare (fr P 66)) (.node (ob128 P) .nil .nil) .nil) (.node (fr P 96) .nil .nil)) (.node ob48 (.node (bare (fr P 82)) .nil .nil) (.node (fr P 112) .nil .nil))) (.node (fr P 24) (.node (bare (fr P 42)) (.node (bare (fr P 74)) .nil .nil) (.node (fr P 104) .nil .nil)) (.node (fr P 56) (.node (fr P 88) .nil .nil) (.node (fr P 120) .nil .nil)))) (.node (cut12 15) (.node (fr P 20) (.node (fr P 36) (.node (fr P 68) .nil .nil) (.node (fr P 100) .nil .nil)) (.node (fr P 52) (.node ob84 .nil .nil) (.node (fr P 116) .nil .nil))) (.node (fr P 28) (.node ob44 (.node (fr P 76) .nil .nil) (.node (fr P 108) .nil .nil)) (.node (fr P 60) (.node (fr P 92) .nil .nil) (.node (fr P 124) .nil .nil))))) (.node (boot_o_6 P) (.node (boot_o_10 P) (.node (fr P 18) (.node (fr P 34) (.node (fr P 66) .nil .nil) (.node (fr P 98) .nil .nil)) (.node ob50 (.node (fr P 82) .nil .nil) (.node ob114 .nil .nil))) (.node (bare (fr P 28)) (.node (fr P 42) (.node (fr P 74) .nil .nil) (.node ob106 .nil .nil)) (.node (fr P 58) (.node (fr P 90) .nil .nil) (.node (fr P 122) .nil .nil)))) (.node ob14 (.node (fr P 22) (.node (fr P 38) (.node (fr P 70) .nil .nil) (.node (bare (fr P 104)) .nil .nil)) (.node ob54 (.node (fr P 86) .nil .nil) (.node (fr P 118) .nil .nil))) (.node ob30 (.node (fr P 46) (.node (fr P 78) .nil .nil) (.node (fr P 110) .nil .nil)) (.node (fr P 62) (.node (bare (fr P 96)) .nil .nil) (.node ob126 .nil .nil)))))))
noncomputable def stD (w : World) (os : OsState) : SharedT := ⟨trD w.params, 130, {}, Array.mk [], {}, 510, os⟩
noncomputable def trE (P : Params) : BT := (.node (boot_o_0 P) (.node (boot_o_1 P) (.node (fr P 3) (.node (boot_o_7 P) (.node (fr P 15) (.node (fr P 31) (.node (fr P 63) (.node (fr P 127) .nil .nil) .nil) (.node (fr P 95) (.node (fr P 159) .nil .nil) .nil)) (.node ob47 (.node (fr P 79) (.node (fr P 143) .nil .nil) .nil) (.node (fr P 111) .nil .nil))) (.node ob23 (.node (fr P 39) (.node (fr P 71) (.node (fr P 135) .nil .nil) .nil) (.node (fr P 103) (.node ob167 .nil .nil) .nil)) (.node (fr P 55) (.node (bare (fr P 89)) (.node (bare (fr P 153)) .nil .nil) .nil) (.node (fr P 119) .nil .nil)))) (.node ob11 (.node (bare (fr P 21)) (.node (fr P 35) (.node (fr P 67) (.node ob131 .nil .nil) .nil) (.node ob99 (.node (bare (fr P 165)) .nil .nil) .nil)) (.node (fr P 51) (.node (fr P 83) (.node (fr P 147) .nil .nil) .nil) (.node (fr P 115) .nil .nil))) (.node (fr P 27) (.node (fr P 43) (.node (fr P 75) (.node (fr P 139) .nil .nil) .nil) (.node (fr P 107) (.node (fr P 171) .nil .nil) .nil)) (.node (fr P 59) (.node ob91 (.node ob155 .nil .nil) .nil) (.node (fr P 123) .nil .nil))))) (.node (boot_o_5 P) (.node (boot_o_9 P) (.node (fr P 17) (.node (bare (fr P 35)) (.node (fr P 65) (.node (ob129 P) .nil .nil) .nil) (.node (fr P 97) (.node (fr P 161) .nil .nil) .nil)) (.node ob49 (.node (fr P 81) (.node ob145 .nil .nil) .nil) (.node (fr P 113) .nil .nil))) (.node (fr P 25) (.node (fr P 41) (.node (fr P 73) (.node (fr P 137) .nil .nil) .nil) (.node (fr P 105) (.node (fr P 169) .nil .nil) .nil)) (.node (bare (fr P 59)) (.node (fr P 89) (.node (fr P 153) .nil .nil) .nil) (.node (fr P 121) .nil .nil)))) (.node ob13 (.node (fr P 21) (.node ob37 (.node ob69 (.node (fr P 133) .nil .nil) .nil) (.node (fr P 101) (.node (fr P 165) .nil .nil) .nil)) (.node (fr P 53) (.node (fr P 85) (.node (fr P 149) .nil .nil) .nil) (.node (bare (fr P 119)) .nil .nil))) (.node (fr P 29) (.node (ob45 P) (.node ob77 (.node (bare (fr P 143)) .nil .nil) .nil) (.node (bare (fr P 111)) .nil .nil)) (.node ob61 (.node (fr P 93) (.node (fr P 157) .nil .nil) .nil) (.node ob125 .nil .nil)))))) (.node (boot_o_2 P) (.node (boot_o_4 P) (.node (boot_o_8 P) (.node ob16 (.node (fr P 32) (.node (bare (fr P 66)) (.node (ob128 P) .nil .nil) .nil) (.node (fr P 96) (.node (fr P 160) .nil .nil) .nil)) (.node ob48 (.node (bare (fr P 82)) (.node (fr P 144) .nil .nil) .nil) (.node (fr P 112) .nil .nil))) (.node (fr P 24) (.node (bare (fr P 42)) (.node (bare (fr P 74)) (.node (fr P 136) .nil .nil) .nil) (.node (fr P 104) (.node (fr P 168) .nil .nil) .nil)) (.node (fr P 56) (.node (fr P 88) (.node (fr P 152) .nil .nil) .nil) (.node (fr P 120) .nil .nil)))) (.node (cut12 57) (.node (fr P 20) (.node (fr P 36) (.node (fr P 68) (.node (fr P 132) .nil .nil) .nil) (.node (fr P 100) (.node (fr P 164) .nil .nil) .nil)) (.node (fr P 52) (.node ob84 (.node (fr P 148) .nil .nil) .nil) (.node (fr P 116) .nil .nil))) (.node (fr P 28) (.node ob44 (.node (fr P 76) (.node (fr P 140) .nil .nil) .nil) (.node (fr P 108) (.node (fr P 172) .nil .nil) .nil)) (.node (fr P 60) (.node (fr P 92) (.node (fr P 156) .nil .nil) .nil) (.node (fr P 124) .nil .nil))))) (.node (boot_o_6 P) (.node (boot_o_10 P) (.node (fr P 18) (.node (fr P 34) (.node (fr P 66) (.node (fr P 130) .nil .nil) .nil) (.node (fr P 98) (.node ob162 .nil .nil) .nil)) (.node ob50 (.node (fr P 82) (.node (bare (fr P 148)) .nil .nil) .nil) (.node ob114 .nil .nil))) (.node (bare (fr P 28)) (.node (fr P 42) (.node (fr P 74) (.node ob138 .nil .nil) .nil) (.node ob106 (.node (bare (fr P 172)) .nil .nil) .nil)) (.node (fr P 58) (.node (fr P 90) (.node (fr P 154) .nil .nil) .nil) (.node (fr P 122) .nil .nil)))) (.node ob14 (.node (fr P 22) (.node (fr P 38) (.node (fr P 70) (.node (bare (fr P 136)) .nil .nil) .nil) (.node (bare (fr P 104)) (.node (fr P 166) .nil .nil) .nil)) (.node ob54 (.node (fr P 86) (.node ob150 .nil .nil) .nil) (.node (fr P 118) .nil .nil))) (.node ob30 (.node (fr P 46) (.node (fr P 78) (.node (fr P 142) .nil .nil) .nil) (.node (fr P 110) .nil .nil)) (.node (fr P 62) (.node (bare (fr P 96)) (.node (bare (fr P 160)) .nil .nil) .nil) (.node ob126 .nil .nil)))))))
noncomputable def stE (w : World) (os : OsState) : SharedT := ⟨trE w.params, 173, {}, Array.mk [], {}, 588, os⟩
noncomputable def hpE (P : Params) : Heap := ⟨Array.mk [boot_o_0 P, boot_o_1 P, boot_o_2 P, (fr P 3), boot_o_4 P, boot_o_5 P, boot_o_6 P, boot_o_7 P, boot_o_8 P, boot_o_9 P, boot_o_10 P, ob11, (cut12 57), ob13, ob14, (fr P 15), ob16, (fr P 17), (fr P 18), (bare (fr P 21)), (fr P 20), (fr P 21), (fr P 22), ob23, (fr P 24), (fr P 25), (bare (fr P 28)), (fr P 27), (fr P 28), (fr P 29), ob30, (fr P 31), (fr P 32), (bare (fr P 35)), (fr P 34), (fr P 35), (fr P 36), ob37, (fr P 38), (fr P 39), (bare (fr P 42)), (fr P 41), (fr P 42), (fr P 43), ob44, (ob45 P), (fr P 46), ob47, ob48, ob49, ob50, (fr P 51), (fr P 52), (fr P 53), ob54, (fr P 55), (fr P 56), (bare (fr P 59)), (fr P 58), (fr P 59), (fr P 60), ob61, (fr P 62), (fr P 63), (bare (fr P 66)), (fr P 65), (fr P 66), (fr P 67), (fr P 68), ob69, (fr P 70), (fr P 71), (bare (fr P 74)), (fr P 73), (fr P 74), (fr P 75), (fr P 76), ob77, (fr P 78), (fr P 79), (bare (fr P 82)), (fr P 81), (fr P 82), (fr P 83), ob84, (fr P 85), (fr P 86), (bare (fr P 89)), (fr P 88), (fr P 89), (fr P 90), ob91, (fr P 92), (fr P 93), (bare (fr P 96)), (fr P 95), (fr P 96), (fr P 97), (fr P 98), ob99, (fr P 100), (fr P 101), (bare (fr P 104)), (fr P 103), (fr P 104), (fr P 105), ob106, (fr P 107), (fr P 108), (bare (fr P 111)), (fr P 110), (fr P 111), (fr P 112), (fr P 113), ob114, (fr P 115), (fr P 116), (bare (fr P 119)), (fr P 118), (fr P 119), (fr P 120), (fr P 121), (fr P 122), (fr P 123), (fr P 124), ob125, ob126, (fr P 127), (ob128 P), (ob129 P), (fr P 130), ob131, (fr P 132), (fr P 133), (bare (fr P 136)), (fr P 135), (fr P 136), (fr P 137), ob138, (fr P 139), (fr P 140), (bare (fr P 143)), (fr P 142), (fr P 143), (fr P 144), ob145, (bare (fr P 148)), (fr P 147), (fr P 148), (fr P 149), ob150, (bare (fr P 153)), (fr P 152), (fr P 153), (fr P 154), ob155, (fr P 156), (fr P 157), (bare (fr P 160)), (fr P 159), (fr P 160), (fr P 161), ob162, (bare (fr P 165)), (fr P 164), (fr P 165), (fr P 166), ob167, (fr P 168), (fr P 169), (bare (fr P 172)), (fr P 171), (fr P 172)], {}⟩
noncomputable def shE (w : World) (os : OsState) : Shared := ⟨hpE w.params, Array.mk [], {}, 588, os⟩
noncomputable def pQ : Program := PySem.Challenge.rw_xo0027_01.row.prog
noncomputable def bQ : List Stmt := behindTheImports pQ
noncomputable def annQ : Option Value := some (.ref 6)
noncomputable def envQ : Env := { scope := pQ.main.scope, locals := mainNs, globals := mainNs, cells := [], code := .ref 13, frame := some 14 }
noncomputable def cQ : Code := .body bQ envQ
noncomputable def q0 : Pos := { line := 0, col := 0, endLine := 0, endCol := 0 }
noncomputable def qB : Pos := { line := 45, col := 0, endLine := 77, endCol := 32 }
noncomputable def qC : Pos := { line := 125, col := 0, endLine := 125, endCol := 11 }
noncomputable def qD : Pos := { line := 126, col := 0, endLine := 126, endCol := 17 }
noncomputable def qE : Pos := { line := 217, col := 0, endLine := 234, endCol := 34 }
noncomputable def lB : List Stmt := bQ.take 8
noncomputable def lC : List Stmt := (bQ.drop 8).take 48
noncomputable def lD : List Stmt := (bQ.drop 56).take 1
noncomputable def lE : List Stmt := bQ.drop 57
theorem pcA (w : World) (os : OsState) : topGo treeTable pQ w 11 annQ 12 ⟨boot_heap w.params, Array.mk [], boot_drawn, boot_toks, os⟩ (topStub pQ) = some ((stA w os).abs, ⟨denote treeTable cQ, cQ, q0, [topFrame q0]⟩) := by
  rw [PySem.W.Fast.te15667345088766844465, PySem.W.Fast.te11892475500146522536, PySem.W.Fast.te14364793385576792824]
  kernel_rfl
theorem pcA2 (w : World) (os : OsState) : segRun treeTable pQ w 11 annQ 1 1 (stA w os).abs (blockOf bQ envQ cQ q0 [topFrame q0]) = some (.next, (stA w os).abs, cQ, q0) := by
  kernel_rfl
theorem pcB (w : World) (os : OsState) : segRunT treeTable pQ w 11 annQ 1 700 (stA w os) (piecesOf lB envQ cQ q0 [topFrame q0]) = some (.next, stB w os, cQ, qB) := by
  rw [PySem.W.Fast.te10110043849684766642, PySem.W.Fast.te14364793385576792824]
  kernel_rfl
theorem pcC (w : World) (os : OsState) : segRunT treeTable pQ w 11 annQ 1 480 (stB w os) (piecesOf lC envQ cQ qB [topFrame q0]) = some (.next, stC w os, cQ, qC) := by
  rw [PySem.W.Fast.te10110043849684766642, PySem.W.Fast.te14364793385576792824]
  kernel_rfl
theorem pcE (w : World) (os : OsState) : segRunT treeTable pQ w 11 annQ 1 280 (stD w os) (piecesOf lE envQ cQ qD [topFrame q0]) = some (.next, stE w os, cQ, qE) := by
  rw [PySem.W.Fast.te10110043849684766642, PySem.W.Fast.te14364793385576792824]
  kernel_rfl
noncomputable def RunD (w : World) : Prop := ∀ os : OsState, segRunT treeTable pQ w 11 annQ 1 1030 (stC w os) (piecesOf lD envQ cQ qC [topFrame q0]) = some (.next, stD w os, cQ, qD)
theorem pcDF (w : World) : RunD (w.withFollow "special-get-raises" false) := by
  unfold RunD
  rw [PySem.W.Fast.te10110043849684766642, PySem.W.Fast.te14364793385576792824]
  intro os
  kernel_rfl
theorem pcDT (w : World) : RunD (w.withFollow "special-get-raises" true) := by
  unfold RunD
  rw [PySem.W.Fast.te10110043849684766642, PySem.W.Fast.te14364793385576792824]
  intro os
  kernel_rfl
theorem pcD (w : World) : RunD w := byRow2 "special-get-raises" (P := RunD) pcDF pcDT w
theorem pcF (w : World) (os : OsState) : topRun treeTable pQ w 11 annQ 2 (stE w os).abs ⟨doneF .next, cQ, qE, [topFrame q0]⟩ = some (shE w os) := by
  kernel_rfl
theorem bQ_cut : bQ = lB ++ (lC ++ (lD ++ (lE ++ []))) := by kernel_rfl
theorem runP (w : World) (os : OsState) : topRun treeTable pQ w 11 annQ (12 + (1 + (700 + (480 + (1030 + (280 + 2)))))) ⟨boot_heap w.params, Array.mk [], boot_drawn, boot_toks, os⟩ (topStub pQ) = some (shE w os) := by
  refine go_top (pcA w os) ?_
  refine piece_block (pcA2 w os) ?_
  rw [bQ_cut]
  refine piece_app (segRun_of (pcB w os)) ?_
  refine piece_app (segRun_of (pcC w os)) ?_
  refine piece_app (segRun_of (pcD w os)) ?_
  refine piece_app (segRun_of (pcE w os)) ?_
  exact piece_nil (pcF w os)
noncomputable def dropAt (ks : List Nat) (l : List Stmt) : List Stmt := (l.zipIdx.filter fun x => !ks.contains x.2).map (·.1)
noncomputable def viewQ : Program := { PySem.Challenge.pw_xo0027_01 with main := { PySem.Challenge.pw_xo0027_01.main with body := dropAt [1, 5, 57] PySem.Challenge.pw_xo0027_01.main.body } }
noncomputable def hookQ : Hook := kmHook hdK.heap_1 [2, 3, 15, 17, 18, 20, 21, 22, 24, 25, 27, 28, 29, 31, 32, 34, 35, 36, 38, 39, 41, 42, 43, 46, 51, 52, 53, 55, 56, 58, 59, 60, 62, 63, 65, 66, 67, 68, 70, 71, 73, 74, 75, 76, 78, 79, 81, 82, 83, 85, 86, 88, 89, 90, 92, 93, 95, 96, 97, 98, 100, 101, 103, 104, 105, 107, 108, 110, 111, 112, 113, 115, 116, 118, 119, 120, 121, 122, 123, 124, 127, 130, 132, 133, 135, 136, 137, 139, 140, 142, 143, 144, 147, 148, 149, 152, 153, 154, 156, 157, 159, 160, 161, 164, 165, 166, 168, 169, 171, 172] (fun _ => by kernel_rfl) [91]
noncomputable def looseQ : List Str := [Str.ofString "_Accumulator", Str.ofString "EXACT_TOKEN_TYPES"]
theorem lookS (w : World) (os : OsState) : (staticsOk (importedModules pQ.main.body) (boot_heap w.params) (hpE w.params) && namesBound pQ (hpE w.params) && gensDone (shE w os) && laidKept (boot_heap w.params) (hpE w.params)) = true := by
  kernel_rfl
noncomputable def seenE (w : World) (os : OsState) := openSeen viewQ looseQ (importedModules PySem.Challenge.rw_xo0027_01.row.prog.main.body) (fun s => xlAt viewQ [] s && recOk (RowW.records (OpenRow.toRowW PySem.Challenge.rw_xo0027_01.row)) s) true (shE w os)
theorem lookO0 (w : World) (os : OsState) : (seenE w os).1 = (openGood viewQ looseQ).1 := by
  unfold seenE openGood
  rw [PySem.W.Fast.te4187177175401517315]
  unfold PySem.W.Fast.tw4187177175401517315
  dsimp only
  kernel_rfl
theorem lookO1 (w : World) (os : OsState) : (seenE w os).2.1 = (openGood viewQ looseQ).2.1 := by
  unfold seenE openGood
  rw [PySem.W.Fast.te4187177175401517315]
  unfold PySem.W.Fast.tw4187177175401517315
  dsimp only
  kernel_rfl
theorem lookO2 (w : World) (os : OsState) : (seenE w os).2.2.1 = (openGood viewQ looseQ).2.2.1 := by
  unfold seenE openGood
  rw [PySem.W.Fast.te4187177175401517315]
  unfold PySem.W.Fast.tw4187177175401517315
  dsimp only
  repeat' (with_reducible refine look_both ?_ ?_)
  all_goals (as_aux_lemma => kernel_rfl)
theorem lookO3 (w : World) (os : OsState) : (seenE w os).2.2.2.1 = (openGood viewQ looseQ).2.2.2.1 := by
  unfold seenE openGood
  rw [PySem.W.Fast.te4187177175401517315]
  unfold PySem.W.Fast.tw4187177175401517315
  dsimp only
  kernel_rfl
theorem lookO4 (w : World) (os : OsState) : (seenE w os).2.2.2.2.1 = (openGood viewQ looseQ).2.2.2.2.1 := by
  unfold seenE openGood
  rw [PySem.W.Fast.te4187177175401517315]
  unfold PySem.W.Fast.tw4187177175401517315
  dsimp only
  kernel_rfl
theorem lookO5 (w : World) (os : OsState) : (seenE w os).2.2.2.2.2.1 = (openGood viewQ looseQ).2.2.2.2.2.1 := by
  unfold seenE openGood
  rw [PySem.W.Fast.te4187177175401517315]
  unfold PySem.W.Fast.tw4187177175401517315
  dsimp only
  kernel_rfl
theorem lookO6 (w : World) (os : OsState) : (seenE w os).2.2.2.2.2.2.1 = (openGood viewQ looseQ).2.2.2.2.2.2.1 := by
  unfold seenE openGood
  rw [PySem.W.Fast.te4187177175401517315]
  unfold PySem.W.Fast.tw4187177175401517315
  dsimp only
  kernel_rfl
theorem lookO7 (w : World) (os : OsState) : (seenE w os).2.2.2.2.2.2.2.1 = (openGood viewQ looseQ).2.2.2.2.2.2.2.1 := by
  unfold seenE openGood
  rw [PySem.W.Fast.te4187177175401517315]
  unfold PySem.W.Fast.tw4187177175401517315
  dsimp only
  kernel_rfl
theorem lookO8 (w : World) (os : OsState) : (seenE w os).2.2.2.2.2.2.2.2 = (openGood viewQ looseQ).2.2.2.2.2.2.2.2 := by
  unfold seenE openGood
  rw [PySem.W.Fast.te4187177175401517315]
  unfold PySem.W.Fast.tw4187177175401517315
  dsimp only
  kernel_rfl
theorem lookO (w : World) (os : OsState) : seenE w os = openGood viewQ looseQ :=
  Prod.ext (lookO0 w os) (Prod.ext (lookO1 w os) (Prod.ext (lookO2 w os) (Prod.ext (lookO3 w os) (Prod.ext (lookO4 w os) (Prod.ext (lookO5 w os) (Prod.ext (lookO6 w os) (Prod.ext (lookO7 w os) (lookO8 w os))))))))
theorem lookH (w : World) (os : OsState) : hookQ.obs (shE w os) = hookQ.val w := by
  kernel_rfl
theorem leftQ : LeftO PySem.Challenge.rw_xo0027_01.row.prog viewQ looseQ (fun s => xlAt viewQ [] s && recOk (RowW.records (OpenRow.toRowW PySem.Challenge.rw_xo0027_01.row)) s) hookQ.obs hookQ.val 4706 true :=
  LeftO.of_pieces (H₀ := boot_heap) (H₁ := hpE) (gs₀ := Array.mk []) (gs₁ := Array.mk []) (d₀ := boot_drawn) (d₁ := {}) (k₀ := boot_toks) (k₁ := 588) (m₀ := 11) (ann := annQ) (M := 12 + (1 + (700 + (480 + (1030 + (280 + 2))))))
    (boot_open (by kernel_rfl) (by decide) (fun s => by kernel_rfl)) (fun w => by kernel_rfl) runP (by decide)
    (fun w => funext fun os => Prod.ext (lookS w os) (Prod.ext (lookO w os) (lookH w os)))
theorem saidQ : PySem.Challenge.rw_xo0027_01.wellSaid = true := by
  rw [PySem.W.Fast.te9446332074065402090]
  unfold PySem.W.Fast.tw9446332074065402090
  repeat' (with_reducible refine look_both ?_ ?_)
  all_goals try (unfold PySem.W.Fast.tw17960256430627541270)
  repeat' (with_reducible refine look_both ?_ ?_)
  all_goals try (unfold PySem.W.Fast.tw2436336058641802641)
  repeat' (with_reducible refine look_both ?_ ?_)
  all_goals try (unfold PySem.W.Fast.tw12908688711261696721)
  repeat' (with_reducible refine look_both ?_ ?_)
  all_goals decide +kernel
end Hd
section
open Hd
local macro_rules | `(tactic| o_law) => `(tactic| refine holds_law saidQ fun _ => ?_)
local macro_rules | `(tactic| k_head) => `(tactic| (refine holds_open (q := viewQ) (loose := looseQ) (Xt := fun s => xlAt viewQ [] s && recOk (RowW.records (OpenRow.toRowW PySem.Challenge.rw_xo0027_01.row)) s) (XP := XL viewQ []) (Yf := Hook.obs (kmHook hdK.heap_1 [2, 3, 15, 17, 18, 20, 21, 22, 24, 25, 27, 28, 29, 31, 32, 34, 35, 36, 38, 39, 41, 42, 43, 46, 51, 52, 53, 55, 56, 58, 59, 60, 62, 63, 65, 66, 67, 68, 70, 71, 73, 74, 75, 76, 78, 79, 81, 82, 83, 85, 86, 88, 89, 90, 92, 93, 95, 96, 97, 98, 100, 101, 103, 104, 105, 107, 108, 110, 111, 112, 113, 115, 116, 118, 119, 120, 121, 122, 123, 124, 127, 130, 132, 133, 135, 136, 137, 139, 140, 142, 143, 144, 147, 148, 149, 152, 153, 154, 156, 157, 159, 160, 161, 164, 165, 166, 168, 169, 171, 172] (fun _ => by kernel_rfl) [91])) (Ya := Hook.val (kmHook hdK.heap_1 [2, 3, 15, 17, 18, 20, 21, 22, 24, 25, 27, 28, 29, 31, 32, 34, 35, 36, 38, 39, 41, 42, 43, 46, 51, 52, 53, 55, 56, 58, 59, 60, 62, 63, 65, 66, 67, 68, 70, 71, 73, 74, 75, 76, 78, 79, 81, 82, 83, 85, 86, 88, 89, 90, 92, 93, 95, 96, 97, 98, 100, 101, 103, 104, 105, 107, 108, 110, 111, 112, 113, 115, 116, 118, 119, 120, 121, 122, 123, 124, 127, 130, 132, 133, 135, 136, 137, 139, 140, 142, 143, 144, 147, 148, 149, 152, 153, 154, 156, 157, 159, 160, 161, 164, 165, 166, 168, 169, 171, 172] (fun _ => by kernel_rfl) [91])) (YP := Hook.says (kmHook hdK.heap_1 [2, 3, 15, 17, 18, 20, 21, 22, 24, 25, 27, 28, 29, 31, 32, 34, 35, 36, 38, 39, 41, 42, 43, 46, 51, 52, 53, 55, 56, 58, 59, 60, 62, 63, 65, 66, 67, 68, 70, 71, 73, 74, 75, 76, 78, 79, 81, 82, 83, 85, 86, 88, 89, 90, 92, 93, 95, 96, 97, 98, 100, 101, 103, 104, 105, 107, 108, 110, 111, 112, 113, 115, 116, 118, 119, 120, 121, 122, 123, 124, 127, 130, 132, 133, 135, 136, 137, 139, 140, 142, 143, 144, 147, 148, 149, 152, 153, 154, 156, 157, 159, 160, 161, 164, 165, 166, 168, 169, 171, 172] (fun _ => by kernel_rfl) [91])) (N := 4706) leftQ (Hook.of (kmHook hdK.heap_1 [2, 3, 15, 17, 18, 20, 21, 22, 24, 25, 27, 28, 29, 31, 32, 34, 35, 36, 38, 39, 41, 42, 43, 46, 51, 52, 53, 55, 56, 58, 59, 60, 62, 63, 65, 66, 67, 68, 70, 71, 73, 74, 75, 76, 78, 79, 81, 82, 83, 85, 86, 88, 89, 90, 92, 93, 95, 96, 97, 98, 100, 101, 103, 104, 105, 107, 108, 110, 111, 112, 113, 115, 116, 118, 119, 120, 121, 122, 123, 124, 127, 130, 132, 133, 135, 136, 137, 139, 140, 142, 143, 144, 147, 148, 149, 152, 153, 154, 156, 157, 159, 160, 161, 164, 165, 166, 168, 169, 171, 172] (fun _ => by kernel_rfl) [91])) (Hook.keeps (kmHook hdK.heap_1 [2, 3, 15, 17, 18, 20, 21, 22, 24, 25, 27, 28, 29, 31, 32, 34, 35, 36, 38, 39, 41, 42, 43, 46, 51, 52, 53, 55, 56, 58, 59, 60, 62, 63, 65, 66, 67, 68, 70, 71, 73, 74, 75, 76, 78, 79, 81, 82, 83, 85, 86, 88, 89, 90, 92, 93, 95, 96, 97, 98, 100, 101, 103, 104, 105, 107, 108, 110, 111, 112, 113, 115, 116, 118, 119, 120, 121, 122, 123, 124, 127, 130, 132, 133, 135, 136, 137, 139, 140, 142, 143, 144, 147, 148, 149, 152, 153, 154, 156, 157, 159, 160, 161, 164, 165, 166, 168, 169, 171, 172] (fun _ => by kernel_rfl) [91])) (fun s e => xl_of s (Bool.and_eq_true_iff.mp e).1) XL.keeps (by rfl) (by rfl) (by rfl) (fun s e => recFacts_of (Bool.and_eq_true_iff.mp e).2) (by rfl) (by first | assumption | decide +kernel) (by decide +kernel) ⟨rfl, rfl, rfl, rfl, rfl, by decide +kernel⟩ ?hw ?hc))
open_top hd for PySem.Challenge.rw_xo0027_01
end
end Mine
theorem Mine.top_off : True := by
  w_top off
  trivial
theorem Mine.top_off_B0 : True := by
  w_top off
  trivial
set_option maxRecDepth 100000
namespace Mine

abbrev KeepOff (hid : List Addr) (h h' : Heap) : Prop := ∀ b o, b ∉ hid → h.get? b = some o → h'.get? b = some o

noncomputable def Leave (g : Heap) (L : Addr) (R : Value → List (Addr × Obj) → Shared → Prop) (v : Value) (s' : Shared) : Prop :=
  ∃ m' news', Fr g L s'.heap m' ∧ News g L s'.heap news' ∧ R v news' s'

section
variable {prog : Program} {w : World} {A A₀ : Around} {E : Value → Shared → Prop} {s : Shared} {K : Frag} {L : Addr} {h₀ base : Heap} {m mg mb : Str → Option Value} {p : Program} {loose : List Str} {mean : ExcName → Option Value} {Q : Value → Shared → Prop}

theorem fn_enter {env : Env} {outer : List Env} {name qual : Str} {params : Arguments} {body : List Stmt} {scope : Scope} {dV kV doc pm cdv ct oc : Value} {an od : Option Addr} {osl : Array (Option Value)} {f : Addr} {args : List Value} {binds : List (Str × Value)}
    (hid : List (Addr × Obj)) (Post : Value → List (Addr × Obj) → Prop)
    (B : Below A₀ base outer h₀) (F : Fr h₀ L s.heap m) (X₀ : K.In h₀) (N : News h₀ L s.heap hid) (T : Top p loose mean mg mb h₀) (hA : A.frames = some (env :: outer)) (hf : env.frame = some L) (hke : env.scope.kind = .function)
    (hret : ∀ v nl h' tk', Fr h₀ L h' m → KeepOff (hid.map (·.1)) s.heap h' → (∀ q ∈ nl, h'.get? q.1 = some q.2 ∧ (q.1 ∈ hid.map (·.1) ∨ s.heap.get? q.1 = none)) → Post v nl → Q v { s with heap := h', toks := tk' })
    (ho : K.lookup f = some ⟨oc, od, .func (fnOf name qual params body scope dV kV doc pm an cdv ct), osl⟩) (hcd : codeIn K cdv qual = true) (hroom : A.depth < recursionLimit)
    (hbind : BindsTo s (fnOf name qual params body scope dV kV doc pm an cdv ct) ⟨args, []⟩ binds) (hloc : ∀ y ∈ binds, scope.names.lookup y.1 = some .local)
    (h : ∀ g L' h₁, (∀ b o, b ∉ hid.map (·.1) → s.heap.get? b = some o → g.get? b = some o) → Fr g L' h₁ (fun y => binds.reverse.lookup y) → News g L' h₁ hid → Below A base (env :: outer) g → K.In g → Top p loose mean mg mb g → (∀ q ∈ hid, q.1 < L') →
      wpAny (model prog w) (A.deeper (envOf qual scope L' f cdv)) (execs body (envOf qual scope L' f cdv))
        (fun fl s' => Leave g L' (fun v nl s'' => Post v nl ∧ ∃ h' tk', s'' = { s with heap := h', toks := tk' }) (match fl with | .ret v => v | _ => .none) s')
        (fun _ _ => False)
        { s with heap := h₁, toks := s.toks + binds.length })
    (hco : scope.isCoroutine = false) (hgen : scope.isGenerator = false) (hk : scope.kind = .function)
    (hcell : ∀ x ∈ scope.names, x.2 ≠ .cell) : wpAny (model prog w) A (call (.ref f) args) Q E s := by
  refine wpAny_call ?_
  obtain ⟨FG, BG, st, lv⟩ := groundX (R := fun r s' => match r with | .ok (.ret v) => Q v s' | .ok _ => False | .error e => E e s') B F N hA hf hke
  refine codeAny_call_def (fd := fnX name qual params body scope [] dV kV doc pm an cdv ct) (body := body) (binds := binds) hroom ((X₀.keeps F.keep) _ _ ho) rfl (T.nolimit.keeps F.keep) (codeRec_of (X₀.keeps F.keep) hcd) rfl hbind hcell hloc (fun h₁ hns hk₁ => ?_) hco hgen hk
  have hg : ∀ b o, b ∉ hid.map (·.1) → s.heap.get? b = some o → (hideAll s.heap (hid.map (·.1))).get? b = some o := fun b o hb e => hideAll_get _ e hb
  refine wpAny_mono (h _ s.heap.objs.size h₁ hg ⟨hns, fun b o e => hk₁ b o (of_hideAll _ e), Nat.le_of_eq (hideAll_size _ _)⟩
    (fun p hp => ⟨hk₁ _ _ (N p hp).1, Nat.ne_of_lt (Heap.lt_size (N p hp).1), hideAll_none _ (List.mem_map_of_mem hp)⟩) BG (X₀.keeps st) (T.keeps st) (fun p hp => Heap.lt_size (N p hp).1)) (fun fl s' hl => ?_) fun _ _ y => y.elim
  obtain ⟨m', news', F', N', hp, h', tk', rfl⟩ := hl
  refine lv _ _ ⟨_, m', news', F', N', fun kF kN => ?_⟩
  refine hret _ news' h' tk' kF (fun b o hb e => F'.keep b o (hg b o hb e)) (fun q hq => ⟨(N' q hq).1, ?_⟩) hp
  by_cases hb : q.1 ∈ hid.map (·.1)
  · exact .inl hb
  · right
    cases e : s.heap.get? q.1 with
    | none => rfl
    | some o =>
      have h2 := hg _ _ hb e
      rw [(N' q hq).2.2] at h2
      cases h2

theorem fn_enterC {env : Env} {outer : List Env} {name qual : Str} {params : Arguments} {body : List Stmt} {scope : Scope} {dV kV doc pm cdv ct oc : Value} {an od : Option Addr} {osl : Array (Option Value)} {f : Addr} {args : List Value} {binds : List (Str × Value)}
    (hid : List (Addr × Obj)) (Post : Value → List (Addr × Obj) → Prop)
    (B : Below A₀ base outer h₀) (F : Fr h₀ L s.heap m) (X₀ : K.In h₀) (N : News h₀ L s.heap hid) (T : Top p loose mean mg mb h₀) (hA : A.frames = some (env :: outer)) (hf : env.frame = some L) (hke : env.scope.kind = .function)
    (hret : ∀ v nl h' tk', Fr h₀ L h' m → KeepOff (hid.map (·.1)) s.heap h' → (∀ q ∈ nl, h'.get? q.1 = some q.2 ∧ (q.1 ∈ hid.map (·.1) ∨ s.heap.get? q.1 = none)) → Post v nl → Q v { s with heap := h', toks := tk' })
    (ho : K.lookup f = some ⟨oc, od, .func (fnOf name qual params body scope dV kV doc pm an cdv ct), osl⟩) (hcd : codeIn K cdv qual = true) (hroom : A.depth < recursionLimit)
    (hbind : BindsTo s (fnOf name qual params body scope dV kV doc pm an cdv ct) ⟨args, []⟩ binds) (hkind : (binds.all fun y => scope.names.lookup y.1 == some .local || scope.names.lookup y.1 == some .cell) = true)
    (hnd : ((cellsFrom 0 scope.names []).map (·.1)).Nodup)
    (h : ∀ g L' h₁ tk cells, (∀ b o, b ∉ hid.map (·.1) → s.heap.get? b = some o → g.get? b = some o) → Fr g L' h₁ (bindL (envOfC qual scope L' f cdv).kindOf binds fun _ => none) → News g L' h₁ (cells ++ hid) →
      CellsAre (bindC (envOfC qual scope L' f cdv).kindOf binds fun _ => none) (cellsFrom (L' + 1) scope.names []) cells → Below A base (env :: outer) g → K.In g → Top p loose mean mg mb g → (∀ q ∈ hid, q.1 < L') →
      wpAny (model prog w) (A.deeper (envOfC qual scope L' f cdv)) (execs body (envOfC qual scope L' f cdv))
        (fun fl s' => Leave g L' (fun v nl s'' => Post v nl ∧ ∃ h' tk', s'' = { s with heap := h', toks := tk' }) (match fl with | .ret v => v | _ => .none) s')
        (fun _ _ => False)
        { s with heap := h₁, toks := tk })
    (hco : scope.isCoroutine = false) (hgen : scope.isGenerator = false) (hk : scope.kind = .function) : wpAny (model prog w) A (call (.ref f) args) Q E s := by
  refine wpAny_call ?_
  obtain ⟨FG, BG, st, lv⟩ := groundX (R := fun r s' => match r with | .ok (.ret v) => Q v s' | .ok _ => False | .error e => E e s') B F N hA hf hke
  have hg : ∀ b o, b ∉ hid.map (·.1) → s.heap.get? b = some o → (hideAll s.heap (hid.map (·.1))).get? b = some o := fun b o hb e => hideAll_get _ e hb
  refine codeAny_call_function hroom ((X₀.keeps F.keep) _ _ ho) (fd := fnX name qual params body scope [] dV kV doc pm an cdv ct) rfl hco hgen rfl (codeRec_of (X₀.keeps F.keep) hcd) (hbind _ _ _ _ ?_)
  refine wpAny_newFunctionEnv_cells hk (kindsX hkind _) fun env' he s' x => ?_
  subst he
  refine ⟨(T.nolimit.keeps F.keep).keeps x.toInCall.keep, codeAny_func ?_⟩
  obtain ⟨h₁, tk, rfl, _⟩ := x.done
  have hk₁ := x.toInCall.keep
  obtain ⟨cells, NC, Y⟩ := Cl.news (h₀ := s.heap) (Nat.le_refl _) fun n c hm => ⟨x.cell n c (lookup_of_mem_nodup (cellsFrom_names scope.names 0 (s.heap.objs.size + 1) [] [] rfl ▸ hnd) hm), x.above n c hm⟩
  refine wpAny_mono (h _ s.heap.objs.size h₁ tk cells hg ⟨x.toInCall.ns, fun b o e => hk₁ b o (of_hideAll _ e), Nat.le_of_eq (hideAll_size _ _)⟩ (fun p hp => ?_) Y BG (X₀.keeps st) (T.keeps st) (fun p hp => Heap.lt_size (N p hp).1)) (fun fl s' hl => ?_) fun _ _ y => y.elim
  · rcases List.mem_append.mp hp with hp | hp
    · refine ⟨(NC p hp).1, (NC p hp).2.1, ?_⟩
      cases q : (hideAll s.heap (hid.map (·.1))).get? p.1 with
      | none => rfl
      | some o => have := of_hideAll _ q; rw [(NC p hp).2.2] at this; cases this
    · exact ⟨hk₁ _ _ (N p hp).1, Nat.ne_of_lt (Heap.lt_size (N p hp).1), hideAll_none _ (List.mem_map_of_mem hp)⟩
  obtain ⟨m', news', F', N', hp, h', tk', rfl⟩ := hl
  refine lv _ _ ⟨_, m', news', F', N', fun kF kN => ?_⟩
  refine hret _ news' h' tk' kF (fun b o hb e => F'.keep b o (hg b o hb e)) (fun q hq => ⟨(N' q hq).1, ?_⟩) hp
  by_cases hb : q.1 ∈ hid.map (·.1)
  · exact .inl hb
  · right
    cases e : s.heap.get? q.1 with
    | none => rfl
    | some o =>
      have h2 := hg _ _ hb e
      rw [(N' q hq).2.2] at h2
      cases h2
end

noncomputable def SpecA (w : World) (A : Around) (f : Addr) (vs : List Value) (hid : List (Addr × Obj)) (s : Shared) (Post : Value → List (Addr × Obj) → Prop) : Prop :=
  ∀ (p : Program) (loose : List Str) (mean : ExcName → Option Value) (mg mb : Str → Option Value) (env : Env) (outer : List Env) (A₀ : Around) (base h₀ : Heap) (L : Addr) (m : Str → Option Value) (Q E : Value → Shared → Prop),
    Below A₀ base outer h₀ → Fr h₀ L s.heap m → (hdK.heap_1 w.params).In h₀ → News h₀ L s.heap hid → Top p loose mean mg mb h₀ → A.frames = some (env :: outer) → env.frame = some L → env.scope.kind = .function →
    (∀ v nl h' tk', Fr h₀ L h' m → KeepOff (hid.map (·.1)) s.heap h' → (∀ q ∈ nl, h'.get? q.1 = some q.2 ∧ (q.1 ∈ hid.map (·.1) ∨ s.heap.get? q.1 = none)) → Post v nl → Q v { s with heap := h', toks := tk' }) →
    wpAny (model PySem.Challenge.rw_xo0027_01.row.prog w) A (call (.ref f) vs) Q E s
noncomputable def Spec (w : World) (f : Addr) (vs : List Value) (hid : List (Addr × Obj)) (s : Shared) (Post : Value → List (Addr × Obj) → Prop) : Prop :=
  ∀ e, SpecA w (callerA.deeper e) f vs hid s Post
noncomputable def Spec2 (w : World) (f : Addr) (vs : List Value) (hid : List (Addr × Obj)) (s : Shared) (Post : Value → List (Addr × Obj) → Prop) : Prop :=
  ∀ e e', SpecA w ((callerA.deeper e).deeper e') f vs hid s Post

end Mine
theorem Mine.top_off_B1 : True := by
  w_top off
  trivial
set_option maxRecDepth 100000
namespace Mine
noncomputable def mp (l : List (Str × Value)) (u : Str → Option Value) : Str → Option Value := fun y => match l.lookup y with
  | some v => some v
  | none => u y
noncomputable def MpOk (m : Str → Option Value) : List (Str × Value) → Prop
  | [] => True
  | p :: r => m p.1 = some p.2 ∧ MpOk m r
theorem mp_of {m : Str → Option Value} : ∀ {l : List (Str × Value)}, MpOk m l → m = mp l m
  | [], _ => rfl
  | p :: r, ⟨h1, h2⟩ => by
    have ih := mp_of h2
    funext y
    unfold mp
    rw [List.lookup_cons]
    cases h : y == p.1 with
    | true => rw [eq_of_beq h]; exact h1
    | false => exact congrFun ih y
noncomputable def Nxt (h₀ : Heap) (L : Addr) (s : Shared) (J : (Str → Option Value) → List (Addr × Obj) → Prop) (f : Flow) (s' : Shared) : Prop :=
  f = .next ∧ ∃ h' tk' m' news', s' = { s with heap := h', toks := tk' } ∧ Fr h₀ L h' m' ∧ News h₀ L h' news' ∧ J m' news'
theorem Nxt.intro {h₀ h' : Heap} {L : Addr} {s : Shared} {J : (Str → Option Value) → List (Addr × Obj) → Prop} {tk : Nat} {m' : Str → Option Value} {news' : List (Addr × Obj)}
    (F : Fr h₀ L h' m') (N : News h₀ L h' news') (hJ : J m' news') : Nxt h₀ L s J .next { s with heap := h', toks := tk } := ⟨rfl, h', tk, m', news', rfl, F, N, hJ⟩
section
variable {prog : Program} {w : World} {A : Around} {E : Value → Shared → Prop} {s : Shared} {h₀ : Heap} {L : Addr} {env : Env}
theorem execs_cut {st : Stmt} {rest : List Stmt} {m : Str → Option Value} {Q : Flow → Shared → Prop} (_F : Fr h₀ L s.heap m) (J : (Str → Option Value) → List (Addr × Obj) → Prop)
    (h1 : wpAny (model prog w) A (exec st env) (Nxt h₀ L s J) E s)
    (h2 : ∀ h' tk' m' news', Fr h₀ L h' m' → News h₀ L h' news' → J m' news' → wpAny (model prog w) A (execs rest env) Q E { s with heap := h', toks := tk' }) :
    wpAny (model prog w) A (execs (st :: rest) env) Q E s := by
  refine wpAny_execs_cons (wpAny_mono h1 (fun f s' x => ?_) fun _ _ x => x)
  obtain ⟨rfl, h', tk', m', news', rfl, F, N, hJ⟩ := x
  exact h2 h' tk' m' news' F N hJ
theorem exec_cut {st : Stmt} {m : Str → Option Value} {Q : Flow → Shared → Prop} (_F : Fr h₀ L s.heap m) (J : (Str → Option Value) → List (Addr × Obj) → Prop)
    (h1 : wpAny (model prog w) A (exec st env) (Nxt h₀ L s J) E s)
    (h2 : ∀ h' tk' m' news', Fr h₀ L h' m' → News h₀ L h' news' → J m' news' → Q .next { s with heap := h', toks := tk' }) :
    wpAny (model prog w) A (exec st env) Q E s := by
  refine wpAny_mono h1 (fun f s' x => ?_) fun _ _ x => x
  obtain ⟨rfl, h', tk', m', news', rfl, F, N, hJ⟩ := x
  exact h2 h' tk' m' news' F N hJ
theorem exec_cutT {st : Stmt} {m : Str → Option Value} {Q : Flow → Shared → Prop} (_F : Fr h₀ L s.heap m) (n : Nat) (hn : n ≤ s.toks) (J : (Str → Option Value) → List (Addr × Obj) → Prop)
    (h1 : wpAny (model prog w) A (exec st env) (Nxt h₀ L s J) E s)
    (h2 : ∀ h' tk' m' news', n ≤ tk' → Fr h₀ L h' m' → News h₀ L h' news' → J m' news' → Q .next { s with heap := h', toks := tk' }) :
    wpAny (model prog w) A (exec st env) Q E s := by
  refine wpAny_mono (wpAny_toks_of hn h1) (fun f s' x => ?_) fun _ _ x => x.2
  obtain ⟨ht, rfl, h', tk', m', news', rfl, F, N, hJ⟩ := x
  exact h2 h' tk' m' news' ht F N hJ
end
theorem news_keep {h₀ h h' : Heap} {L : Addr} {news : List (Addr × Obj)} (N : News h₀ L h news) (k : KeepOff [] h h') : News h₀ L h' news :=
  fun p hp => ⟨k _ _ List.not_mem_nil (N p hp).1, (N p hp).2⟩
theorem news_add {h₀ h h' : Heap} {L : Addr} {m : Str → Option Value} {news nl : List (Addr × Obj)} (F : Fr h₀ L h m) (N : News h₀ L h news) (k : KeepOff [] h h')
    (hn : ∀ q ∈ nl, h'.get? q.1 = some q.2 ∧ (q.1 ∈ ([] : List (Addr × Obj)).map (·.1) ∨ h.get? q.1 = none)) : News h₀ L h' (nl ++ news) := fun p hp => by
  rcases List.mem_append.mp hp with hp | hp
  · obtain ⟨h1, h2⟩ := hn p hp
    have h2 : h.get? p.1 = none := h2.resolve_left List.not_mem_nil
    refine ⟨h1, fun e => ?_, ?_⟩
    · obtain ⟨oL, _, _, hL, _⟩ := F.ns
      rw [e, hL] at h2; cases h2
    · cases q : h₀.get? p.1 with
      | none => rfl
      | some o => rw [F.keep _ _ q] at h2; cases h2
  · exact news_keep N k p hp
theorem updF1 {c : Addr} {o : PySem.Obj} : UpdF c o [(c, o)] (fun o' => [(c, o')]) := .head (fun _ h => nomatch h)
theorem updF2 {a c : Addr} {oa o : PySem.Obj} (h1 : a ≠ c) : UpdF c o [(a, oa), (c, o)] (fun o' => [(a, oa), (c, o')]) := .tail h1 updF1
theorem updF3 {a b c : Addr} {oa ob o : PySem.Obj} (h1 : a ≠ c) (h2 : b ≠ c) : UpdF c o [(a, oa), (b, ob), (c, o)] (fun o' => [(a, oa), (b, ob), (c, o')]) := .tail h1 (updF2 h2)
theorem off1 {a I : Addr} {oa : PySem.Obj} (h1 : a ≠ I) : ∀ p ∈ [(a, oa)], p.1 ≠ I := fun p hp => by rw [List.mem_singleton.mp hp]; exact h1
theorem off2 {a b I : Addr} {oa ob : PySem.Obj} (h1 : a ≠ I) (h2 : b ≠ I) : ∀ p ∈ [(a, oa), (b, ob)], p.1 ≠ I := fun p hp => by
  rcases List.mem_cons.mp hp with rfl | hp
  · exact h1
  · exact off1 h2 p hp
theorem ex_addr {h₀ h : Heap} {L v : Addr} {x : Str} {m : Str → Option Value} (_F : Fr h₀ L h (fun y => if y = x then some (.ref v) else m y)) : ∃ B : Addr, v = B := ⟨v, rfl⟩
end Mine
theorem Mine.top_off_B2 : True := by
  w_top off
  trivial
set_option maxRecDepth 100000
namespace Mine
noncomputable def Trn (h₀ : Heap) (L : Addr) (I : Addr) (oI : Obj) (J : (Str → Option Value) → List (Addr × Obj) → Prop) (s : Shared) (f : Flow) (s' : Shared) : Prop :=
  f = .next ∧ ∃ h' tk' m' news' nx, s' = { s with heap := h', toks := tk' } ∧ Fr h₀ L h' m' ∧ News h₀ L h' news' ∧ (∀ p ∈ nx, p ∈ news') ∧ (I, oI) ∈ news' ∧ (∀ p ∈ nx, p.1 ≠ I) ∧ J m' nx
theorem Trn.intro {h₀ h' : Heap} {L I : Addr} {oI : Obj} {s : Shared} {J : (Str → Option Value) → List (Addr × Obj) → Prop} {tk : Nat} {m' : Str → Option Value} {news' : List (Addr × Obj)} (nx : List (Addr × Obj))
    (F : Fr h₀ L h' m') (N : News h₀ L h' news') (hn : ∀ p ∈ nx, p ∈ news') (hI : (I, oI) ∈ news') (ho : ∀ p ∈ nx, p.1 ≠ I) (hJ : J m' nx) : Trn h₀ L I oI J s .next { s with heap := h', toks := tk } :=
  ⟨rfl, h', tk, m', news', nx, rfl, F, N, hn, hI, ho, hJ⟩
section
variable {prog : Program} {w : World} {A : Around} {E : Value → Shared → Prop} {s : Shared} {env : Env} {h₀ : Heap} {target : Expr} {body : List Stmt} {Q : Flow → Shared → Prop}

theorem iter_list {l : Addr} {vs : List Value} {m₀ : Str → Option Value} {news : List (Addr × Obj)} (ol : Obj) (J : Nat → (Str → Option Value) → List (Addr × Obj) → Prop)
    (hh : A.handled = none) (hc : ol.cls = .type "list") (hdat : ∃ k, ol.data = .seq vs.toArray k)
    (F : Fr h₀ env.locals s.heap m₀) (N : News h₀ env.locals s.heap news) (hol : h₀.get? l = some ol ∨ (∀ i m nx, J i m nx → (l, ol) ∈ nx)) (hj : J 0 m₀ news)
    (turn : ∀ i v m₁ nx s₁ I oI, vs[i]? = some v → J i m₁ nx → (∀ p ∈ nx, p.1 ≠ I) → Fr h₀ env.locals s₁.heap m₁ → News h₀ env.locals s₁.heap ((I, oI) :: nx) →
      wpAny (model prog w) A (assign target env v) (fun _ s₃ => wpAny (model prog w) A (execs body env) (Trn h₀ env.locals I oI (J (i + 1)) s₁) E s₃) E s₁)
    (done : ∀ m₁ nx h tk, J vs.length m₁ nx → Fr h₀ env.locals h m₁ → News h₀ env.locals h nx → Q .next { s with heap := h, toks := tk }) :
    wpAny (model prog w) A (pyIter (.ref l)) (fun it s₂ => LoopAtT prog w A h₀ env target body Q E it s₂) E s := by
  obtain ⟨k, hdat⟩ := hdat
  have hls0 : s.heap.get? l = some ol := hol.elim (F.keep l ol) fun hm => (N _ (hm 0 m₀ news hj)).1
  have hls : s.heap.IsList l vs.toArray := ⟨ol, hls0, hc, k, hdat⟩
  have hne : l ≠ s.heap.objs.size := Nat.ne_of_lt (Heap.lt_size hls0)
  have hLl : env.locals ≠ l := fun e => hol.elim (fun h0 => absurd (Nat.lt_of_lt_of_le (Heap.lt_size h0) F.above) (e ▸ Nat.lt_irrefl _)) fun hm => (N _ (hm 0 m₀ news hj)).2.1 e.symm
  refine wpAny_pyIter_list hls ?_
  have W := Walks.list (prog := prog) (w := w) hh s.heap.objs.size l hne vs.toArray
  have hlen : vs.toArray.size = vs.length := by simp
  rw [hlen] at W
  have hI0 : h₀.get? s.heap.objs.size = none := next_is_new F
  have hLI : env.locals ≠ s.heap.objs.size := fun e => absurd F.ns.lt (e ▸ Nat.lt_irrefl _)
  refine ⟨_, _, _, vs.length, _, _, m₀, news, J, rfl, W, ?_, ?_, ?_, ⟨⟨_, Heap.get?_push_size _ rfl, rfl, rfl⟩, hls.at fun o e => Heap.get?_push_of_some _ e⟩, F.push _, (fun p hp => ⟨Heap.get?_push_of_some _ (N p hp).1, (N p hp).2⟩), (fun i s' v Q' st hQ' => letGo_listiter st.1 hQ'), hj, ?_, ?_⟩
  · intro hm
    rcases List.mem_cons.mp hm with e | hm
    · exact hLI e
    · exact hLl (List.mem_singleton.mp hm)
  · intro b hb
    rw [List.mem_singleton.mp hb]
    exact hI0
  · intro p hp hI
    exact absurd (Heap.lt_size (N p hp).1) ((List.mem_singleton.mp hI) ▸ Nat.lt_irrefl _)
  · intro i v m₁ nx s₁ own hin hP hJ hoff hown hget hall hst F₁ N₁
    obtain ⟨⟨oI, hoI, _⟩, _⟩ := id hst
    have hIown : (s.heap.objs.size, oI) ∈ own := hall _ (List.mem_cons.mpr (.inl rfl)) hI0 _ hoI
    have hoffI : ∀ p ∈ nx, p.1 ≠ s.heap.objs.size := fun p hp e => hoff p hp (List.mem_singleton.mpr e)
    have N₂ : News h₀ env.locals s₁.heap ((s.heap.objs.size, oI) :: nx) := fun p hp => by
      rcases List.mem_cons.mp hp with rfl | hp
      · exact N₁ _ (List.mem_append_left _ hIown)
      · exact N₁ _ (List.mem_append_right _ hp)
    refine wpAny_mono (turn i v m₁ nx s₁ _ oI (by simpa using hP) hJ hoffI F₁ N₂) (fun _ s₃ h₃ => wpAny_mono h₃ (fun f s₄ h₄ => ?_) fun _ _ e => e) fun _ _ e => e
    obtain ⟨rfl, h', tk', m', news', nx', rfl, F', N', hn, hI, ho, hJ'⟩ := h₄
    refine LoopStepU.intro (news₂ := nx') F' (fun p hp => ?_) (fun p hp hw => ho p hp (List.mem_singleton.mp hw)) hJ'
    rcases List.mem_append.mp hp with hp | hp
    · rcases List.mem_cons.mp (hown p hp) with e | e
      · have h1 := hget p hp
        rw [e, hoI] at h1
        have : p = (s.heap.objs.size, oI) := Prod.ext e (Option.some.inj h1).symm
        exact this ▸ N' _ hI
      · have e' : p.1 = l := List.mem_singleton.mp e
        rcases hol with h0 | hm
        · have h2 := (N₁ p (List.mem_append_left _ hp)).2.2
          rw [e', h0] at h2; cases h2
        · have h1 := hget p hp
          have h2 := (N₁ _ (List.mem_append_right _ (hm i m₁ nx hJ))).1
          rw [e', h2] at h1
          have : p = (l, ol) := Prod.ext e' (Option.some.inj h1).symm
          exact this ▸ N' _ (hn _ (hm _ _ _ hJ'))
    · exact N' p (hn p hp)
  · intro h' tk m' nx F' N' _ hJ
    exact done m' nx h' tk hJ F' N'

theorem iter_range {r : Addr} {a b c : Int} {t₀ u₀ v₀ : Tok} {n : Nat} {x : Str} {m₀ : Str → Option Value} {news : List (Addr × Obj)} (J : Nat → (Str → Option Value) → List (Addr × Obj) → Prop)
    (hh : A.handled = none) (hr : IsRange s.heap r a b c t₀ u₀ v₀) (hsmall : Builtin.Range.small a b c = true) (hn : Builtin.Range.rangeSize a b c = (n : Int))
    (F : Fr h₀ env.locals s.heap m₀) (N : News h₀ env.locals s.heap news) (hj : J 0 m₀ news)
    (turn : ∀ i t m₁ nx h tk I oI, i < n → J i m₁ nx → (∀ p ∈ nx, p.1 ≠ I) → Fr h₀ env.locals h (fun y => if y = x then some (.int (a + (i : Int) * c) t) else m₁ y) → News h₀ env.locals h ((I, oI) :: nx) →
      wpAny (model prog w) A (execs body env) (Trn h₀ env.locals I oI (J (i + 1)) { s with heap := h, toks := tk }) E { s with heap := h, toks := tk })
    (done : ∀ m₁ nx h tk, J n m₁ nx → Fr h₀ env.locals h m₁ → News h₀ env.locals h nx → Q .next { s with heap := h, toks := tk }) :
    wpAny (model prog w) A (pyIter (.ref r)) (fun it s₂ => LoopAtV prog w A h₀ env x body Q E it s₂) E s := by
  refine wpAny_pyIter_range hr hsmall ?_
  have W := Walks.range (prog := prog) (w := w) hh s.heap.objs.size a c n
  have hI0 : h₀.get? s.heap.objs.size = none := next_is_new F
  have hLI : env.locals ≠ s.heap.objs.size := fun e => absurd F.ns.lt (e ▸ Nat.lt_irrefl _)
  refine ⟨_, _, _, n, _, _, m₀, news, J, rfl, W, ?_, ?_, ?_, (by show IsRangeIter _ _ _ _ _; rw [hn]; simpa using Heap.get?_push_size _ rfl), F.push _, (fun p hp => ⟨Heap.get?_push_of_some _ (N p hp).1, (N p hp).2⟩), hj, ?_, ?_⟩
  · intro hm
    exact hLI (List.mem_singleton.mp hm)
  · intro b hb
    rw [List.mem_singleton.mp hb]
    exact hI0
  · intro p hp hI
    exact absurd (Heap.lt_size (N p hp).1) ((List.mem_singleton.mp hI) ▸ Nat.lt_irrefl _)
  · rintro i v m₁ nx s₁ own ⟨h, tk, rfl⟩ hin ⟨t, rfl⟩ hJ hoff hown hget hall hst F₁ N₁
    obtain ⟨oI, hIown⟩ : ∃ oI, (s.heap.objs.size, oI) ∈ own := ⟨_, hall _ (List.mem_singleton.mpr rfl) hI0 _ hst⟩
    have hoffI : ∀ p ∈ nx, p.1 ≠ s.heap.objs.size := fun p hp e => hoff p hp (List.mem_singleton.mpr e)
    refine wpAny_mono (turn i t m₁ nx h tk _ oI hin hJ hoffI F₁ fun p hp => ?_) (fun f s₄ h₄ => ?_) fun _ _ e => e
    · rcases List.mem_cons.mp hp with rfl | hp
      · exact N₁ _ (List.mem_append_left _ hIown)
      · exact N₁ _ (List.mem_append_right _ hp)
    obtain ⟨rfl, h', tk', m', news', nx', rfl, F', N', hn, hI, ho, hJ'⟩ := h₄
    refine .next (LoopStepU.intro (news₂ := nx') F' (fun p hp => ?_) (fun p hp hw => ho p hp (List.mem_singleton.mp hw)) hJ')
    rcases List.mem_append.mp hp with hp | hp
    · have e := List.mem_singleton.mp (hown p hp)
      have h1 := hget p hp
      rw [e] at h1
      have h2 := (N₁ _ (List.mem_append_left _ hIown)).1
      rw [h2] at h1
      have : p = (s.heap.objs.size, oI) := Prod.ext e (Option.some.inj h1).symm
      exact this ▸ N' _ hI
    · exact N' p (hn p hp)
  · intro h' tk m' nx F' N' _ hJ
    exact done m' nx h' tk hJ F' N'
end
end Mine
theorem Mine.top_off_B3 : True := by
  w_top off
  trivial
set_option maxRecDepth 100000
namespace Mine
theorem vs_eq {vs vs' : List Value} (hlen : vs'.length = vs.length) (h : ∀ (j : Nat) (v : Value), vs'[j]? = some v → vs[j]? = some v) : vs' = vs := by
  apply List.ext_getElem? 
  intro j
  cases e : vs'[j]? with
  | some v => exact (h j v e).symm
  | none => rw [List.getElem?_eq_none (by rw [← hlen]; exact List.getElem?_eq_none_iff.mp e)]
section
variable {prog : Program} {w : World} {A : Around} {E : Value → Shared → Prop} {s : Shared} {env : Env} {h₀ : Heap}
theorem comp_iter {l : Addr} {vs : List Value} {m : Str → Option Value} {news : List (Addr × Obj)} {x y : Str} {ifs : List Expr} {elt : Expr} {scope : Scope} {cl : List (Str × Addr)} {Q : Flow → Shared → Prop}
    {p : Value → Bool} {Fv : Value → Value → Prop} (hh : A.handled = none) (hl : s.heap.IsList l vs.toArray) (F : Fr h₀ env.locals s.heap m) (N : News h₀ env.locals s.heap news) (hsz : vs.length ≤ sizeLine)
    (htest : ∀ (C : Addr) (i : Nat) (v : Value) (s₃ : Shared) (m₃ : Str → Option Value) (E' : Value → Shared → Prop), vs[i]? = some v → Fr s.heap C s₃.heap m₃ → m₃ x = some v → s.toks ≤ s₃.toks →
      wpAny (model prog w) A (forIn ifs true fun c r => if r = true then do let ok ← isTrue c (compEnvC scope cl C env) (eval c (compEnvC scope cl C env)); pure (ForInStep.yield ok) else pure (ForInStep.yield r))
        (fun ok s₄ => ok = p v ∧ Keeps s₃ s₄) E' s₃)
    (helt : ∀ (C : Addr) (i : Nat) (v : Value) (s₃ : Shared) (m₃ : Str → Option Value) (E' : Value → Shared → Prop), vs[i]? = some v → p v = true → Fr s.heap C s₃.heap m₃ → m₃ x = some v → s.toks ≤ s₃.toks →
      wpAny (model prog w) A (eval elt (compEnvC scope cl C env)) (fun y s₄ => Fv v y ∧ Keeps s₃ s₄) E' s₃)
    (hQ : ∀ D h' tk ys k, Fr h₀ env.locals h' (fun z => if z = y then some (.ref D) else m z) → News h₀ env.locals h' ((D, listOf ys k) :: news) → (∀ q ∈ news, q.1 ≠ D) → Paired Fv (vs.filter p) ys.toList → Q .next { s with heap := h', toks := tk }) :
    wpAny (model prog w) A (pyIter (.ref l)) (fun it s₂ => ∃ I fp wr n P St m, it = .ref I ∧ Walks prog w A I fp wr n P St ∧ n ≤ sizeLine ∧ St 0 s₂.heap ∧ (∀ b ∈ fp, b < s₂.heap.objs.size) ∧
      env.locals ∉ wr ∧ s₂.heap.Ns env.locals m ∧ QuietOnC prog w A env scope cl x ifs elt wr P p Fv s₂ ∧
      (∀ D h' tk ys (vs : List Value), s₂.heap.get? D = none → h'.IsList D ys → h'.PlainList D ys → vs.length = n → (∀ j v, vs[j]? = some v → P j v) → Paired Fv (vs.filter p) ys.toList →
        h'.Ns env.locals (fun z => if z = y then some (.ref D) else m z) → (∀ b o, b ≠ env.locals → b ∉ wr → s₂.heap.get? b = some o → h'.get? b = some o) → Q .next { s₂ with heap := h', toks := tk })) E s := by
  obtain ⟨ol, hol, hcl, k0, hd0⟩ := id hl
  have hne : l ≠ s.heap.objs.size := Nat.ne_of_lt (Heap.lt_size hol)
  have hLI : env.locals ≠ s.heap.objs.size := fun e => absurd F.ns.lt (e ▸ Nat.lt_irrefl _)
  refine wpAny_pyIter_list hl ?_
  have W := Walks.list (prog := prog) (w := w) hh s.heap.objs.size l hne vs.toArray
  have hlen : vs.toArray.size = vs.length := by simp
  rw [hlen] at W
  have off : ∀ {b : Addr} {o : PySem.Obj}, s.heap.get? b = some o → b ∉ [s.heap.objs.size] := fun e hb => absurd (Heap.lt_size e) (List.mem_singleton.mp hb ▸ Nat.lt_irrefl _)
  refine ⟨_, _, _, vs.length, _, _, m, rfl, W, hsz, ⟨⟨_, Heap.get?_push_size _ rfl, rfl, rfl⟩, hl.at fun o e => Heap.get?_push_of_some _ e⟩, ?_, ?_, (F.push _).ns, ⟨?_, ?_⟩, ?_⟩
  · intro b hb
    rw [Heap.size_push]
    rcases List.mem_cons.mp hb with rfl | hb
    · exact Nat.lt_succ_self _
    · rw [List.mem_singleton.mp hb]; exact Nat.lt_succ_of_lt (Heap.lt_size hol)
  · intro hm; exact hLI (List.mem_singleton.mp hm)
  · intro C i v s₃ m₃ E' hC hP hn hm hk htk
    refine htest C i v s₃ m₃ E' (by simpa using hP) ⟨hn, fun b o e => hk b o (off e) (Heap.get?_push_of_some _ e), ?_⟩ hm htk
    rw [Heap.size_push] at hC; exact Nat.le_of_succ_le hC
  · intro C i v s₃ m₃ E' hC hP hp hn hm hk htk
    refine helt C i v s₃ m₃ E' (by simpa using hP) hp ⟨hn, fun b o e => hk b o (off e) (Heap.get?_push_of_some _ e), ?_⟩ hm htk
    rw [Heap.size_push] at hC; exact Nat.le_of_succ_le hC
  · intro D h' tk ys vs' hD hlD hpD hlen' hP hF hn hk
    have e : vs' = vs := vs_eq hlen' fun j v hv => by simpa using hP j v hv
    subst e
    obtain ⟨k, hk0⟩ := hpD
    have hDs : s.heap.get? D = none := by
      cases q : s.heap.get? D with
      | none => rfl
      | some o => rw [Heap.get?_push_of_some _ q] at hD; cases hD
    refine hQ D h' tk ys k ⟨hn, fun b o q => hk b o (fun q' => ?_) (off (F.keep b o q)) (Heap.get?_push_of_some _ (F.keep b o q)), F.above⟩ ?_ ?_ hF
    · exact absurd (Heap.lt_size q) (Nat.not_lt.mpr (q' ▸ F.above))
    · intro q hq
      rcases List.mem_cons.mp hq with rfl | hq
      · refine ⟨hk0, fun q' => ?_, ?_⟩
        · obtain ⟨oL, _, _, hL, _⟩ := F.ns
          rw [show D = env.locals from q', hL] at hDs; cases hDs
        · cases q' : h₀.get? D with
          | none => rfl
          | some o => rw [F.keep _ _ q'] at hDs; cases hDs
      · have z := N q hq
        exact ⟨hk _ _ z.2.1 (off z.1) (Heap.get?_push_of_some _ z.1), z.2⟩
    · intro q hq q'
      rw [← q', (N q hq).1] at hDs; cases hDs

noncomputable def CompSrc (prog : Program) (w : World) (A : Around) (h₀ : Heap) (env : Env) (elt : Expr) (x y : Str) (ifs : List Expr) (scope : Scope) (cl : List (Str × Addr)) (p : Value → Bool) (Fv : Value → Value → Prop) (Q : Flow → Shared → Prop) (xv : Value) (s : Shared) : Prop :=
  ∃ (l : Addr) (vs : List Value) (m : Str → Option Value) (news : List (Addr × Obj)), xv = .ref l ∧ s.heap.IsList l vs.toArray ∧ Fr h₀ env.locals s.heap m ∧ News h₀ env.locals s.heap news ∧ vs.length ≤ sizeLine ∧
    (∀ (C : Addr) (i : Nat) (v : Value) (s₃ : Shared) (m₃ : Str → Option Value) (E' : Value → Shared → Prop), vs[i]? = some v → Fr s.heap C s₃.heap m₃ → m₃ x = some v → s.toks ≤ s₃.toks →
      wpAny (model prog w) A (forIn ifs true fun c r => if r = true then do let ok ← isTrue c (compEnvC scope cl C env) (eval c (compEnvC scope cl C env)); pure (ForInStep.yield ok) else pure (ForInStep.yield r))
        (fun ok s₄ => ok = p v ∧ Keeps s₃ s₄) E' s₃) ∧
    (∀ (C : Addr) (i : Nat) (v : Value) (s₃ : Shared) (m₃ : Str → Option Value) (E' : Value → Shared → Prop), vs[i]? = some v → p v = true → Fr s.heap C s₃.heap m₃ → m₃ x = some v → s.toks ≤ s₃.toks →
      wpAny (model prog w) A (eval elt (compEnvC scope cl C env)) (fun y s₄ => Fv v y ∧ Keeps s₃ s₄) E' s₃) ∧
    (∀ D h' tk ys k, Fr h₀ env.locals h' (fun z => if z = y then some (.ref D) else m z) → News h₀ env.locals h' ((D, listOf ys k) :: news) → (∀ q ∈ news, q.1 ≠ D) → Paired Fv (vs.filter p) ys.toList → Q .next { s with heap := h', toks := tk })
theorem assign_comp {x y : Str} {px py pos spos : Pos} {ifs : List Expr} {elt iter : Expr} {scope : Scope} {cl : List (Str × Addr)} {Q : Flow → Shared → Prop} {m₀ : Str → Option Value} (_F : Fr h₀ env.locals s.heap m₀)
    (p : Value → Bool) (Fv : Value → Value → Prop) (hh : A.handled = none)
    (hsw : swapsWith (.ListComp elt [⟨.Name x px, iter, ifs, 0⟩] scope pos) (some (.Name y py)) spos.line env = pure true)
    (hclos : closureFor scope env = pure cl) (hcell : ∀ z ∈ scope.names, z.2 ≠ .cell) (hkind : scope.kind = .function)
    (hnames : ∀ z ∈ scope.names, z.2 = .local → scope.names.lookup z.1 = some .local) (hx : scope.names.lookup x = some .local)
    (hy : env.kindOf y = some .local) (hp : (env.scope.kind == .class || (env.scope.kind == .module && env.locals != env.globals)) = false)
    (h : wpAny (model prog w) A (eval iter env) (CompSrc prog w A h₀ env elt x y ifs scope cl p Fv Q) E s)
    (hs : ∀ x, foldedSetIterable iter env x = pure x) :
    wpAny (model prog w) A (exec (.Assign [.Name y py] (.ListComp elt [⟨.Name x px, iter, ifs, 0⟩] scope pos) spos) env) Q E s := by
  refine wpAny_Assign_ListComp_free p Fv hsw hclos hcell hkind hnames hx hy hp (wpAny_mono h (fun xv s₁ h₁ => ?_) fun _ _ e => e) hs
  obtain ⟨l, vs, m, news, rfl, hl, F, N, hsz, ht, he, hQ⟩ := h₁
  exact comp_iter hh hl F N hsz ht he hQ
theorem comp_local {scope : Scope} {cl : List (Str × Addr)} {C : Addr} {g : Heap} {m : Str → Option Value} {x : Str} {v : Value} {pos : Pos} {Q : Value → Shared → Prop} (F : Fr g C s.heap m) (hm : m x = some v) (h : Q v s)
    (hx : scope.names.lookup x = some .local) (hk : scope.kind = .function := by rfl) (hd : (x == ("__debug__" : Str)) = false := by decide) :
    wpAny (model prog w) A (eval (.Name x pos) (compEnvC scope cl C env)) Q E s :=
  wpAny_Name (wpAny_loadName_local hk (lookup_relabel_local hx) F.ns hm h) hd
theorem comp_global {K : Frag} {p : Program} {loose : List Str} {mean : ExcName → Option Value} {mg mb : Str → Option Value} {scope : Scope} {cl : List (Str × Addr)} {C : Addr} {g : Heap} {m : Str → Option Value} {x : Str} {v : Value} {pos : Pos} {Q : Value → Shared → Prop}
    (F : Fr g C s.heap m) (X : K.In g) (T : Top p loose mean mg mb g) (e : nsIn K mainGlobals x = some (some v)) (h : Q v s) (hge : env.globals = mainGlobals)
    (hx : (compEnvC scope cl C env).kindOf x = some .globalImplicit) (hk : scope.kind = .function := by rfl) (hd : (x == ("__debug__" : Str)) = false := by decide) :
    wpAny (model prog w) A (eval (.Name x pos) (compEnvC scope cl C env)) Q E s :=
  Name_function_global hk hx (loadGlobal_global (env := compEnvC scope cl C env) (by show Heap.Ns _ env.globals _; rw [hge]; exact T.g.keeps F.keep) (mg_of X T.g e) h) hd
end
end Mine
theorem Mine.top_off_B4 : True := by
  w_top off
  trivial
set_option maxRecDepth 100000
namespace Mine
section
variable {prog : Program} {w : World} {A : Around} {E : Value → Shared → Prop} {s : Shared} {env : Env} {h₀ : Heap}
noncomputable def CompSrcV (prog : Program) (w : World) (A : Around) (h₀ : Heap) (env : Env) (elt : Expr) (x : Str) (ifs : List Expr) (scope : Scope) (cl : List (Str × Addr)) (p : Value → Bool) (Fv : Value → Value → Prop) (Q : Value → Shared → Prop) (xv : Value) (s : Shared) : Prop :=
  ∃ (l : Addr) (vs : List Value) (m : Str → Option Value) (news : List (Addr × Obj)), xv = .ref l ∧ s.heap.IsList l vs.toArray ∧ Fr h₀ env.locals s.heap m ∧ News h₀ env.locals s.heap news ∧ vs.length ≤ sizeLine ∧
    (∀ (C : Addr) (i : Nat) (v : Value) (s₃ : Shared) (m₃ : Str → Option Value) (E' : Value → Shared → Prop), vs[i]? = some v → Fr s.heap C s₃.heap m₃ → m₃ x = some v → s.toks ≤ s₃.toks →
      wpAny (model prog w) A (forIn ifs true fun c r => if r = true then do let ok ← isTrue c (compEnvC scope cl C env) (eval c (compEnvC scope cl C env)); pure (ForInStep.yield ok) else pure (ForInStep.yield r))
        (fun ok s₄ => ok = p v ∧ Keeps s₃ s₄) E' s₃) ∧
    (∀ (C : Addr) (i : Nat) (v : Value) (s₃ : Shared) (m₃ : Str → Option Value) (E' : Value → Shared → Prop), vs[i]? = some v → p v = true → Fr s.heap C s₃.heap m₃ → m₃ x = some v → s.toks ≤ s₃.toks →
      wpAny (model prog w) A (eval elt (compEnvC scope cl C env)) (fun y s₄ => Fv v y ∧ Keeps s₃ s₄) E' s₃) ∧
    (∀ D h' tk ys k, Fr h₀ env.locals h' m → News h₀ env.locals h' ((D, listOf ys k) :: news) → (∀ q ∈ news, q.1 ≠ D) → Paired Fv (vs.filter p) ys.toList → Q (.ref D) { s with heap := h', toks := tk })
theorem eval_comp {x : Str} {px pos : Pos} {ifs : List Expr} {elt iter : Expr} {scope : Scope} {cl : List (Str × Addr)} {Q : Value → Shared → Prop} {m₀ : Str → Option Value} (_F : Fr h₀ env.locals s.heap m₀)
    (p : Value → Bool) (Fv : Value → Value → Prop) (hh : A.handled = none)
    (hclos : closureFor scope env = pure cl) (hcell : ∀ z ∈ scope.names, z.2 ≠ .cell) (hkind : scope.kind = .function)
    (hnames : ∀ z ∈ scope.names, z.2 = .local → scope.names.lookup z.1 = some .local) (hx : scope.names.lookup x = some .local)
    (h : wpAny (model prog w) A (eval iter env) (CompSrcV prog w A h₀ env elt x ifs scope cl p Fv Q) E s)
    (hs : ∀ x, foldedSetIterable iter env x = pure x) :
    wpAny (model prog w) A (eval (.ListComp elt [⟨.Name x px, iter, ifs, 0⟩] scope pos) env) Q E s := by
  refine wpAny_ListComp_free p Fv hclos hcell hkind hnames hx (wpAny_mono h (fun xv s h₁ => ?_) fun _ _ e => e) hs
  obtain ⟨l, vs, m, news, rfl, hl, F, N, hsz, htest, helt, hQ⟩ := h₁
  obtain ⟨ol, hol, hcl, k0, hd0⟩ := id hl
  have hne : l ≠ s.heap.objs.size := Nat.ne_of_lt (Heap.lt_size hol)
  have hLI : env.locals ≠ s.heap.objs.size := fun e => absurd F.ns.lt (e ▸ Nat.lt_irrefl _)
  refine wpAny_pyIter_list hl ?_
  have W := Walks.list (prog := prog) (w := w) hh s.heap.objs.size l hne vs.toArray
  have hlen : vs.toArray.size = vs.length := by simp
  rw [hlen] at W
  have off : ∀ {b : Addr} {o : PySem.Obj}, s.heap.get? b = some o → b ∉ [s.heap.objs.size] := fun e hb => absurd (Heap.lt_size e) (List.mem_singleton.mp hb ▸ Nat.lt_irrefl _)
  refine ⟨_, _, _, vs.length, _, _, rfl, W, hsz, ⟨⟨_, Heap.get?_push_size _ rfl, rfl, rfl⟩, hl.at fun o e => Heap.get?_push_of_some _ e⟩, ?_, ⟨?_, ?_⟩, ?_⟩
  · intro b hb
    rw [Heap.size_push]
    rcases List.mem_cons.mp hb with rfl | hb
    · exact Nat.lt_succ_self _
    · rw [List.mem_singleton.mp hb]; exact Nat.lt_succ_of_lt (Heap.lt_size hol)
  · intro C i v s₃ m₃ E' hC hP hn hm hk htk
    refine htest C i v s₃ m₃ E' (by simpa using hP) ⟨hn, fun b o e => hk b o (off e) (Heap.get?_push_of_some _ e), ?_⟩ hm htk
    rw [Heap.size_push] at hC; exact Nat.le_of_succ_le hC
  · intro C i v s₃ m₃ E' hC hP hp hn hm hk htk
    refine helt C i v s₃ m₃ E' (by simpa using hP) hp ⟨hn, fun b o e => hk b o (off e) (Heap.get?_push_of_some _ e), ?_⟩ hm htk
    rw [Heap.size_push] at hC; exact Nat.le_of_succ_le hC
  · intro D h' tk ys vs' hD hlD hpD hlen' hP hF hk
    have e : vs' = vs := vs_eq hlen' fun j v hv => by simpa using hP j v hv
    subst e
    obtain ⟨k, hk0⟩ := hpD
    have hDs : s.heap.get? D = none := by
      cases q : s.heap.get? D with
      | none => rfl
      | some o => rw [Heap.get?_push_of_some _ q] at hD; cases hD
    have keep : ∀ b o, s.heap.get? b = some o → h'.get? b = some o := fun b o q => hk b o (off q) (Heap.get?_push_of_some _ q)
    refine hQ D h' tk ys k (F.kept keep) ?_ ?_ hF
    · intro q hq
      rcases List.mem_cons.mp hq with rfl | hq
      · refine ⟨hk0, fun q' => ?_, ?_⟩
        · obtain ⟨oL, _, _, hL, _⟩ := F.ns
          rw [show D = env.locals from q', hL] at hDs; cases hDs
        · cases q' : h₀.get? D with
          | none => rfl
          | some o => rw [F.keep _ _ q'] at hDs; cases hDs
      · have z := N q hq
        exact ⟨keep _ _ z.1, z.2⟩
    · intro q hq q'
      rw [← q', (N q hq).1] at hDs; cases hDs
theorem comp_cell {scope : Scope} {cl : List (Str × Addr)} {C c : Addr} {x : Str} {v : Value} {pos : Pos} {Q : Value → Shared → Prop} (hv : s.heap.IsCell c (some v)) (h : Q v s)
    (hl : (compEnvC scope cl C env).kindOf x = some .cell) (hc : cl.lookup x = some c) (hk : scope.kind = .function := by rfl) (hd : (x == ("__debug__" : Str)) = false := by decide) :
    wpAny (model prog w) A (eval (.Name x pos) (compEnvC scope cl C env)) Q E s :=
  wpAny_Name (wpAny_loadName_cell hk hl hc hv h) hd
end
/-! sorting -/
noncomputable def ins (a : Int) : List Int → List Int
  | [] => [a]
  | b :: r => if a ≤ b then a :: b :: r else b :: ins a r
noncomputable def isort : List Int → List Int
  | [] => []
  | a :: r => ins a (isort r)
theorem ins_perm (a : Int) : ∀ l, (ins a l).Perm (a :: l)
  | [] => .refl _
  | b :: r => by
    unfold ins
    split
    · exact .refl _
    · exact ((ins_perm a r).cons b).trans (.swap a b r)
theorem isort_perm : ∀ l, (isort l).Perm l
  | [] => .refl _
  | a :: r => (ins_perm a _).trans ((isort_perm r).cons a)
theorem ins_sorted (a : Int) : ∀ l : List Int, l.Pairwise (· ≤ ·) → (ins a l).Pairwise (· ≤ ·)
  | [], _ => by simp [ins]
  | b :: r, h => by
    rw [List.pairwise_cons] at h
    unfold ins
    split
    · rename_i hab
      refine List.pairwise_cons.mpr ⟨fun c hc => ?_, List.pairwise_cons.mpr h⟩
      rcases List.mem_cons.mp hc with rfl | hc
      · exact hab
      · exact Int.le_trans hab (h.1 c hc)
    · rename_i hab
      refine List.pairwise_cons.mpr ⟨fun c hc => ?_, ins_sorted a r h.2⟩
      rcases List.mem_cons.mp ((ins_perm a r).mem_iff.mp hc) with rfl | hc
      · omega
      · exact h.1 c hc
theorem isort_sorted : ∀ l : List Int, (isort l).Pairwise (· ≤ ·)
  | [] => .nil
  | a :: r => ins_sorted a _ (isort_sorted r)
theorem sorted_is {ns ns' : List Int} (h1 : ns'.Perm ns) (h2 : ns'.Pairwise (· ≤ ·)) : ns' = isort ns :=
  List.Perm.eq_of_pairwise (le := (· ≤ ·)) (fun a b _ _ h h' => Int.le_antisymm h h') h2 (isort_sorted ns) (h1.trans (isort_perm ns).symm)
theorem weightAll_le (b : Nat) : ∀ {ns : List Int}, (∀ n ∈ ns, n.natAbs ≤ b) → PyData.weightAll (ns.map .int) ≤ (b + 2) * ns.length
  | [], _ => by simp [PyData.weightAll]
  | n :: r, h => by
    have ih := weightAll_le b (ns := r) fun k hk => h k (List.mem_cons_of_mem _ hk)
    have h1 := h n (List.mem_cons_self ..)
    have h2 : PyData.weight (.int n) ≤ b + 1 := by
      simp only [PyData.weight]
      split
      · omega
      · have := Nat.log2_le_self n.natAbs
        omega
    simp only [List.map_cons, PyData.weightAll, List.length_cons]
    rw [Nat.mul_add]
    omega
theorem lay_ints (b : Nat) {ns : List Int} (h : ∀ n ∈ ns, n.natAbs ≤ b) (hb : (b + 2) * ns.length ≤ 2 ^ 20) : PyData.layable0 (.list (ns.map .int)) = true := by
  show (PyData.canLay0 (.list (ns.map .int)) && decide (PyData.depth (.list (ns.map .int)) ≤ 64) && decide (PyData.weight (.list (ns.map .int)) ≤ 2 ^ 20)) = true
  rw [Bool.and_eq_true, Bool.and_eq_true]
  refine ⟨⟨?_, ?_⟩, decide_eq_true ?_⟩
  · simp only [PyData.canLay0, canLayAll_ints]
  · simp only [PyData.depth, PyProof.Rows.depthAll_ints]
    decide
  · simp only [PyData.weight]
    exact Nat.le_trans (weightAll_le b h) hb
end Mine
local macro_rules | `(tactic| walk_report) => `(tactic| first
  | (with_reducible show wpAny _ _ (exec (Stmt.While _ _ _ _) _) _ _ _)
  | (with_reducible show wpAny _ _ (exec (Stmt.For _ _ _ _ _) _) _ _ _)
  | (with_reducible show wpAny _ _ (eval (Expr.ListComp _ _ _ _) _) _ _ _)
  | (with_reducible show wpAny _ _ (exec (Stmt.Assign _ (Expr.ListComp _ _ _ _) _) _) _ _ _)
  | (with_reducible show wpAny _ _ (PySem.call (Value.ref _) _ _) _ _ _)
  | (with_reducible show wpAny _ _ (PySem.call (Value.builtin "list.append") _ _) _ _ _)
  | (with_reducible show wpAny _ _ (PySem.call (Value.builtin "list.insert") _ _) _ _ _)
  | (with_reducible show wpAny _ _ (PySem.call (Value.builtin "list.pop") _ _) _ _ _)
  | (with_reducible show wpAny _ _ (pyIter _) _ _ _)
  | (with_reducible show Mine.Nxt _ _ _ _ _ _))
local macro_rules | `(tactic| lge_go0) => `(tactic| repeat' (first
  | (k_unfold; (try dsimp only))
  | ((fail_if_success (first
      | walk_report))
     (first | walk1 | (dsimp only; walk1)))
  | fail "no step"))
local macro_rules | `(tactic| lge_go) => `(tactic| repeat' (first
  | (k_unfold; (try dsimp only))
  | ((fail_if_success (first
      | walk_report
      | (with_reducible show wpAny _ _ (eval (Expr.Subscript (Expr.Name (Str.ofString "EXACT_TOKEN_TYPES") _) _ _) _) _ _ _)))
     (first | walk1 | (dsimp only; walk1)))
  | fail "no step"))
local macro_rules | `(tactic| lgec_go0) => `(tactic| repeat' (first
  | (k_unfold; (try dsimp only))
  | ((fail_if_success (first
      | walk_report
      | (with_reducible show wpAny _ _ (eval (Expr.Subscript (Expr.Name (Str.ofString "EXACT_TOKEN_TYPES") _) _ _) _) _ _ _)
      | (with_reducible show wpAny _ _ (getMethod (Value.ref _) _ _) _ _ _)
      | (with_reducible show wpAny _ _ (PySem.call (Value.type "str") _ _) _ _ _)))
     (first | walk1 | (dsimp only; walk1)))
  | fail "no step"))
local macro_rules | `(tactic| lgec_go) => `(tactic| repeat' (first
  | (k_unfold; (try dsimp only))
  | ((fail_if_success (first
      | walk_report
      | (with_reducible show wpAny _ _ (eval (Expr.Subscript (Expr.Name (Str.ofString "EXACT_TOKEN_TYPES") _) _ _) _) _ _ _)
      | (with_reducible show wpAny _ _ (subscriptTail _ _ (Value.ref _) (Value.int _ _)) _ _ _)
      | (with_reducible show wpAny _ _ (getMethod (Value.ref _) _ _) _ _ _)
      | (with_reducible show wpAny _ _ (PySem.call (Value.type "str") _ _) _ _ _)
      | (with_reducible show wpAny _ _ (PySem.call (Value.builtin "len") [Value.ref _] _) _ _ _)))
     (first | walk1 | (dsimp only; walk1)))
  | fail "no step"))
local macro_rules | `(tactic| lge_open0) => `(tactic| repeat' (first
  | (k_unfold; (try dsimp only))
  | ((fail_if_success (first
      | walk_report
      | (with_reducible show wpAny _ _ (subscriptTail _ _ (Value.ref _) (Value.int _ _)) _ _ _)
      | (with_reducible show wpAny _ _ (PySem.call (Value.builtin "len") [Value.ref _] _) _ _ _)))
     (first | walk1 | (dsimp only; walk1)))
  | fail "no step"))
theorem Mine.top_off_T0 : True := by
  w_top off
  trivial
set_option maxRecDepth 100000
namespace Mine

noncomputable def sub1 (c : Nat) (z : List Nat) (l : List Nat) : List Nat := l.flatMap fun k => if k = c then z else [k]
theorem sub1_append (c : Nat) (z a b : List Nat) : sub1 c z (a ++ b) = sub1 c z a ++ sub1 c z b := by simp [sub1]
theorem sub1_free (c : Nat) (z : List Nat) : ∀ l : List Nat, c ∉ l → sub1 c z l = l
  | [], _ => rfl
  | k :: r, h => by
    have h1 : k ≠ c := fun e => h (e ▸ List.mem_cons_self ..)
    have h2 := sub1_free c z r fun q => h (List.mem_cons_of_mem _ q)
    simp only [sub1, List.flatMap_cons, if_neg h1] at h2 ⊢
    rw [h2]; rfl
theorem sub1_one (c : Nat) (z : List Nat) : sub1 c z [c] = z := by simp [sub1]
theorem sub1_join (c : Nat) (z : Str) : ∀ parts : List Str, (∀ p ∈ parts, c ∉ p.cps.toList) → sub1 c z.cps.toList (Str.join ⟨#[c]⟩ parts).cps.toList = (Str.join z parts).cps.toList
  | [], _ => rfl
  | [p], h => sub1_free c _ _ (h p (List.mem_singleton.mpr rfl))
  | p :: q :: r, h => by
    have ih := sub1_join c z (q :: r) fun a ha => h a (List.mem_cons_of_mem _ ha)
    show sub1 c _ (p ++ ⟨#[c]⟩ ++ Str.join ⟨#[c]⟩ (q :: r)).cps.toList = (p ++ z ++ Str.join z (q :: r)).cps.toList
    simp only [Str.cps_append, Array.toList_append]
    rw [sub1_append, sub1_append, ih, sub1_free c _ _ (h p (List.mem_cons_self ..))]
    show p.cps.toList ++ sub1 c _ [c] ++ _ = _
    rw [sub1_one]
noncomputable def rep (c : Nat) (z x : Str) : Str := ⟨(sub1 c z.cps.toList x.cps.toList).toArray⟩
theorem replace_rep (x z : Str) (c : Nat) : Txt.replace x ⟨#[c]⟩ z = rep c z x := by
  have h : (Txt.replace x ⟨#[c]⟩ z).cps.toList = sub1 c z.cps.toList x.cps.toList := by
    rw [StrLaws.replace_one, ← sub1_join c z _ (StrLaws.split_free x c), StrLaws.join_split]
  apply Str.ext'
  apply Array.ext'
  rw [h]; rfl
theorem rep_free (c : Nat) (z x : Str) (h : c ∉ x.cps.toList) : rep c z x = x := by
  apply Str.ext'
  apply Array.ext'
  exact sub1_free c _ _ h
theorem sub1_length (c : Nat) (z : List Nat) (hz : 1 ≤ z.length) : ∀ l : List Nat, (sub1 c z l).length ≤ z.length * l.length
  | [] => by simp [sub1]
  | k :: r => by
    have h2 := sub1_length c z hz r
    simp only [sub1, List.flatMap_cons, List.length_append, List.length_cons] at h2 ⊢
    rw [Nat.mul_add]
    have : (if k = c then z else [k]).length ≤ z.length := by split <;> simp [hz]
    omega
theorem rep_length {c : Nat} {z x : Str} {n : Nat} (hz : 1 ≤ z.length) (hz' : z.length ≤ 6) (hx : x.length ≤ n) : (rep c z x).length ≤ 6 * n := by
  have h := sub1_length c z.cps.toList (by simpa [Str.length] using hz) x.cps.toList
  have e : (rep c z x).length = (sub1 c z.cps.toList x.cps.toList).length := by simp [rep, Str.length]
  have e2 : z.cps.toList.length = z.length := by simp [Str.length]
  have e3 : x.cps.toList.length = x.length := by simp [Str.length]
  rw [e]; rw [e2, e3] at h
  exact Nat.le_trans h (Nat.mul_le_mul hz' hx)

open Builtin.Str in
theorem indices_clip (a b n : Nat) : strSliceIndices (some (a : Int)) (some (b : Int)) 1 n = strSliceIndices (some (a : Int)) (some ((min b n : Nat) : Int)) 1 n := by
  have h2 : ¬ ((b : Int) < 0) := by omega
  have h3 : ¬ (((min b n : Nat) : Int) < 0) := by omega
  have e : max (0 : Int) (min (b : Int) (n : Int)) = max (0 : Int) (min ((min b n : Nat) : Int) (n : Int)) := by omega
  simp only [strSliceIndices, h2, h3, if_false, show ((1 : Int) > 0) = True from by simp, if_true]
  rw [e]
open Builtin.Str in
theorem slice_list (x : Str) {a : Nat} (n : Nat) (ha : a ≤ x.length) : (Txt.slice x (some (a : Int)) (some ((a : Int) + (n : Int)))).cps.toList = (x.cps.toList.drop a).take n := by
  have hl : x.cps.toList.length = x.length := by simp [Str.length]
  have e0 : (a : Int) + (n : Int) = ((a + n : Nat) : Int) := by omega
  have e1 : (strSliceIndices (some (a : Int)) (some ((a : Int) + (n : Int))) 1 x.length).filterMap (x.cps[·]?) = (x.cps.toList.drop a).take n := by
    rw [e0, indices_clip, StrLaws.sliced_plain x (by omega) (by omega)]
    have h2 : (x.cps.toList.drop a).length = x.length - a := by rw [List.length_drop, hl]
    by_cases h : a + n ≤ x.length
    · rw [show min (a + n) x.length - a = n from by omega]
    · rw [List.take_of_length_le (by omega), List.take_of_length_le (by omega)]
  unfold Txt.slice
  split
  · rename_i h
    have h3 : (strSliceIndices (some (a : Int)) (some ((a : Int) + (n : Int))) 1 x.length).length = x.length := by simpa using h
    have h4 : (strSliceIndices (some (a : Int)) (some ((a : Int) + (n : Int))) 1 x.length).length = min (a + n) x.length - a := by
      rw [e0, indices_clip, StrLaws.strSliceIndices_plain (by omega) (by omega)]; simp
    have h5 : a = 0 ∨ x.length = 0 := by omega
    rcases h5 with h5 | h5
    · subst h5
      rw [List.drop_zero, List.take_of_length_le (by omega)]
    · have : x.cps.toList = [] := List.length_eq_zero_iff.mp (by omega)
      rw [this]; simp
  · exact e1

section
variable {prog : Program} {w : World} {A : Around} {E : Value → Shared → Prop} {s : Shared} {h₀ : Heap} {L a : Addr} {m : Str → Option Value} {qual : Str} {scope : Scope} {cd : Value} {news : List (Addr × Obj)}

theorem execs_tk {env : Env} {st : Stmt} {rest : List Stmt} {Q : Flow → Shared → Prop} (n : Nat) (hn : n ≤ s.toks)
    (h : wpAny (model prog w) A (exec st env) (fun f s' => n ≤ s'.toks → match f with | .next => wpAny (model prog w) A (execs rest env) Q E s' | f => Q f s') E s) :
    wpAny (model prog w) A (execs (st :: rest) env) Q E s :=
  wpAny_execs_cons (wpAny_mono (wpAny_toks_of hn h) (fun _ _ x => x.2 x.1) fun _ _ x => x.2)

theorem if_replace {y z : String} {c : Nat} {x : Str} {t : Tok} {k1 k2 k3 : Nat} {p1 p2 p3 p4 p5 p6 p7 p8 p9 p10 p11 : Pos} {pl : Sem Bool} {Q : Flow → Shared → Prop}
    (F : Fr h₀ L s.heap m) (N : News h₀ L s.heap news) (hm : m "text" = some (.str x t)) (hx : x.length ≤ 1048576) (htk : 1 ≤ s.toks)
    (hy : Str.ofString y = ⟨#[c]⟩) (hyz : (Str.ofString y == Str.ofString z) = false) (hz : (Str.ofString z).length ≤ 14)
    (hq : ∀ h' t' tk', Fr h₀ L h' (fun q => if q = ("text" : Str) then some (.str (rep c (Str.ofString z) x) t') else m q) → News h₀ L h' news → Q .next { s with heap := h', toks := tk' })
    (hk : scope.kind = .function := by rfl) (hl : (envOf qual scope L a cd).kindOf "text" = some .local := by rfl)
    (he : eval (.Call (.Attribute (.Name "text" p5) "replace" p6) [.Constant (.str (Str.ofString y)) k2 p7, .Constant (.str (Str.ofString z)) k3 p8] [] p9) (envOf qual scope L a cd) = (do
      let ov ← eval (.Name "text" p5) (envOf qual scope L a cd)
      standAt p6.atName
      let (f, first) ← holding [ov] (getMethod ov "replace" pl)
      callWith p9 f first (backTo p9 (starEach [.Constant (.str (Str.ofString y)) k2 p7, .Constant (.str (Str.ofString z)) k3 p8] (envOf qual scope L a cd))) []) := by rfl) :
    wpAny (model prog w) A (exec (.If (.Compare (.Constant (.str (Str.ofString y)) k1 p1) [.In] [.Name "text" p2] p3)
      [.Assign [.Name "text" p4] (.Call (.Attribute (.Name "text" p5) "replace" p6) [.Constant (.str (Str.ofString y)) k2 p7, .Constant (.str (Str.ofString z)) k3 p8] [] p9) p10] [] p11) (envOf qual scope L a cd)) Q E s := by
  refine wpAny_If (wpAny_isTrue_Compare1 (Calls.Constant_str (ld (m := m) F hm (in_str (wpAny_truthy_bool ?_)) hk hl)))
  have ho : (!(Builtin.Str.occurrences x (Str.ofString y) 0 x.length 1).isEmpty) = decide (c ∈ x.cps.toList) := by rw [hy, StrLaws.found_one]
  rw [ho]
  by_cases hc : c ∈ x.cps.toList
  · simp only [hc, decide_true, if_true]
    refine wpAny_execs_cons (wpAny_Assign_Name (MethodCall_ (ld (m := m) F hm (GM.replace (callWith_method1 (spliced_more (Calls.Constant_str (spliced_more (Calls.Constant_str (spliced_none ?_))))))) hk hl) he))
    show wpAny _ _ (call _ [Value.str x t, Value.str (Str.ofString y) _, Value.str (Str.ofString z) _]) _ _ _
    rw [hy]
    refine SC.replaceW (by show s.toks + 1 ≠ 0; omega) (by show s.toks + 1 + 1 ≠ 0; omega) (by show s.toks + 1 ≠ s.toks + 1 + 1; omega) (by rw [← hy]; exact hyz) hx hz fun t' k => ?_
    refine stN F N (fun h' F' N' => ?_) hk hl
    rw [replace_rep] at F'
    exact wpAny_execs_nil (hq h' t' _ F' N')
  · simp only [hc, decide_false, Bool.false_eq_true, if_false]
    refine wpAny_execs_nil (hq s.heap t _ ?_ N)
    rw [rep_free c _ x hc]
    have e : (fun q => if q = ("text" : Str) then some (Value.str x t) else m q) = m := by
      funext q
      by_cases h : q = "text"
      · rw [if_pos h, h, hm]
      · rw [if_neg h]
    rw [e]; exact F
end
end Mine
theorem Mine.top_off_TB : True := by
  w_top off
  trivial
set_option maxRecDepth 100000
namespace Mine
noncomputable def P0 : Params := { strHash := fun _ => 0, shareClass := id, mergeTok := id, idOf := fun _ => 0, idOfShared := fun _ _ => 0, followText := fun _ => false, idOfImm := fun _ => 0 }
noncomputable def opEs (P : Params) : List DictEntry := match (hdK.heap_1 P).lookup 127 with
  | some ⟨_, _, .dict es _, _⟩ => es.toList
  | _ => []
noncomputable def opKV : List (Value × Value) := (opEs P0).map fun e => (e.key, e.val)
noncomputable def opV (x : Str) : Option Value := (opKV.find? fun kv => Value.isStrOf x kv.1).map (·.2)
noncomputable def rowOf (kv : Value × Value) : List Nat × Nat := match kv with
  | (.str x _, .int n _) => (x.cps.toList, n.toNat)
  | _ => ([], 0)
noncomputable def opTab : List (List Nat × Nat) := opKV.map rowOf
theorem opTab_is : opKV.all (fun kv => match kv with | (.str _ _, .int n _) => decide (0 ≤ n) | _ => false) = true := by decide +kernel
theorem opEs_lookup (P : Params) : ∃ n, (hdK.heap_1 P).lookup 127 = some ⟨.type "dict", none, .dict (opEs P).toArray n, #[]⟩ := ⟨_, rfl⟩
theorem opEs_kv (P : Params) : (opEs P).map (fun e => (e.key, e.val)) = opKV := rfl
theorem opEs_lit (P : Params) : KeysLit P (opEs P) := by
  show KeysLit P (_ :: _)
  k_keys
theorem find_kv (x : Str) : ∀ l : List DictEntry, (l.find? fun e => Value.isStrOf x e.key).map (·.val) = ((l.map fun e => (e.key, e.val)).find? fun kv => Value.isStrOf x kv.1).map (·.2)
  | [] => rfl
  | e :: r => by
    simp only [List.map_cons, List.find?_cons]
    cases Value.isStrOf x e.key with
    | true => rfl
    | false => exact find_kv x r
theorem op_map {prog : Program} {w : World} {h : Heap} (X : (hdK.heap_1 w.params).In h) : h.MapOf (strKind prog w) 127 opV := by
  obtain ⟨n, hl⟩ := opEs_lookup w.params
  have hm := mapOf_K (prog := prog) X hl (opEs_lit _)
  have e : (fun k => findBy Value.isStrOf (opEs w.params).toArray k) = opV := by
    funext x
    unfold findBy opV
    rw [List.find?_toArray, find_kv, opEs_kv]
  rw [e] at hm
  exact hm
noncomputable def opN (l : List Nat) : Option Nat := (opTab.find? fun r => r.1 == l).map (·.2)
theorem opV_opN (x : Str) : (opV x = none ∧ opN x.cps.toList = none) ∨ ∃ n t, opV x = some (.int n t) ∧ opN x.cps.toList = some n.toNat ∧ 0 ≤ n := by
  have key : ∀ l : List (Value × Value), l.all (fun kv => match kv with | (.str _ _, .int n _) => decide (0 ≤ n) | _ => false) = true →
      (((l.find? fun kv => Value.isStrOf x kv.1).map (·.2)) = none ∧ (((l.map rowOf).find? fun r => r.1 == x.cps.toList).map (·.2)) = none) ∨
      ∃ n t, ((l.find? fun kv => Value.isStrOf x kv.1).map (·.2)) = some (.int n t) ∧ (((l.map rowOf).find? fun r => r.1 == x.cps.toList).map (·.2)) = some n.toNat ∧ 0 ≤ n := by
    intro l
    induction l with
    | nil => intro _; exact .inl ⟨rfl, rfl⟩
    | cons kv r ih =>
      intro h
      rw [List.all_cons, Bool.and_eq_true] at h
      obtain ⟨h1, h2⟩ := h
      split at h1
      · rename_i y t n u
        simp only [List.map_cons, List.find?_cons, rowOf]
        have e : Value.isStrOf x (.str y t) = (y.cps.toList == x.cps.toList) := by
          show (y == x) = _
          rw [Bool.eq_iff_iff]
          simp only [beq_iff_eq]
          exact ⟨fun e => by rw [e], fun e => Str.ext' (Array.ext' e)⟩
        rw [e]
        cases y.cps.toList == x.cps.toList with
        | true => exact .inr ⟨n, u, rfl, rfl, by simpa using h1⟩
        | false => exact ih h2
      · cases h1
  exact key opKV opTab_is
end Mine
theorem Mine.top_off_U0 : True := by
  w_top off
  trivial
set_option maxRecDepth 100000
namespace Mine
noncomputable def isOp (l : List Nat) : Bool := (opN l).isSome
noncomputable def cutK (l : List Nat) : Nat := if isOp (l.take 3) then 3 else if isOp (l.take 2) then 2 else 1
theorem cutK_pos (l : List Nat) : 1 ≤ cutK l := by unfold cutK; split <;> (try split) <;> omega
theorem cutK_le (l : List Nat) : cutK l ≤ 3 := by unfold cutK; split <;> (try split) <;> omega
noncomputable def cut (l : List Nat) : List (List Nat) := if h : l = [] then [] else l.take (cutK l) :: cut (l.drop (cutK l))
termination_by l.length
decreasing_by
  have h1 := cutK_pos l
  have h2 : 0 < l.length := List.length_pos_iff.mpr h
  rw [List.length_drop]; omega
theorem cut_nil : cut [] = [] := by rw [cut]; simp
theorem cut_cons {l : List Nat} (h : l ≠ []) : cut l = l.take (cutK l) :: cut (l.drop (cutK l)) := by rw [cut]; simp [h]

noncomputable def CutJ (x : Str) (t : Tok) (W : Addr) (n : Nat) (m : Str → Option Value) (news : List (Addr × Obj)) : Prop :=
  ∃ (a : Nat) (ta : Tok) (ws : List (Str × Tok)) (k : Nat) (u : Str → Option Value),
    m = mp [("text", .str x t), ("words", .ref W), ("at", .int (a : Int) ta)] u ∧ news = [(W, listOf (strValues ws).toArray k)] ∧
    (ws.map (·.1.cps.toList)) ++ cut (x.cps.toList.drop a) = cut x.cps.toList ∧ n = x.length + 3 - a ∧ a ≤ x.length + 2 ∧ ws.length ≤ a
noncomputable def CutI (x : Str) (t : Tok) (W : Addr) (a : Nat) (ta : Tok) (ws : List (Str × Tok)) (k : Nat) (n : Nat) (m : Str → Option Value) (news : List (Addr × Obj)) : Prop :=
  ∃ (ts : Tok) (u : Str → Option Value), m = mp [("text", .str x t), ("words", .ref W), ("at", .int (a : Int) ta), ("size", .int (n : Int) ts)] u ∧ news = [(W, listOf (strValues ws).toArray k)] ∧
    (n = 3 ∨ (n = 2 ∧ isOp ((x.cps.toList.drop a).take 3) = false) ∨ (n = 1 ∧ isOp ((x.cps.toList.drop a).take 3) = false ∧ isOp ((x.cps.toList.drop a).take 2) = false))
noncomputable def CutE (x : Str) (t : Tok) (W : Addr) (a : Nat) (ta : Tok) (ws : List (Str × Tok)) (k : Nat) (m : Str → Option Value) (news : List (Addr × Obj)) : Prop :=
  ∃ (ts : Tok) (u : Str → Option Value), m = mp [("text", .str x t), ("words", .ref W), ("at", .int (a : Int) ta), ("size", .int (cutK (x.cps.toList.drop a) : Int) ts)] u ∧ news = [(W, listOf (strValues ws).toArray k)]
noncomputable def CutD (x : Str) (W : Addr) (m : Str → Option Value) (news : List (Addr × Obj)) : Prop :=
  ∃ (ws : List (Str × Tok)) (k : Nat) (u : Str → Option Value), m = mp [("words", .ref W)] u ∧ news = [(W, listOf (strValues ws).toArray k)] ∧ ws.map (·.1.cps.toList) = cut x.cps.toList
section
variable {prog : Program} {w : World} {A : Around} {E : Value → Shared → Prop} {s : Shared} {g : Heap} {L : Addr} {m : Str → Option Value} {x : Str} {t : Tok} {Q : Value → Shared → Prop}
theorem opV_isOp (x : Str) : (opV x).isSome = isOp x.cps.toList := by
  unfold isOp
  rcases opV_opN x with ⟨h1, h2⟩ | ⟨n, t, h1, h2, _⟩ <;> rw [h1, h2] <;> rfl
theorem op_notin (F : Fr g L s.heap m) (X : (hdK.heap_1 w.params).In g) (h : Q (.bool (!isOp x.cps.toList)) { s with toks := s.toks + 1 }) :
    wpAny (model prog w) A (compareOp .NotIn (.str x t) (.ref 127)) Q E s :=
  wpAny_notIn_of (strKind_is prog w x t) rfl (op_map (X.keeps F.keep)) (by rw [opV_isOp]; exact h)
theorem op_get {u : Tok} (F : Fr g L s.heap m) (X : (hdK.heap_1 w.params).In g) (h : ∀ tk, Q (.int (((opN x.cps.toList).getD 0 : Nat) : Int) tk) { s with toks := s.toks + 1 }) :
    wpAny (model prog w) A (call (.builtin "dict.get") [.ref 127, .str x t, .int 0 u]) Q E s := by
  have hm := op_map (prog := prog) (X.keeps F.keep)
  refine call_meetsIn PySem.F.slot_dict_get hm.typeIs PySem.F.entry_dict_get (PySem.F.args_dict_get_3 _ _ _) (meets_dict_get_default (strKind prog w) 127 (strKind_is prog w x t) rfl _) ⟨opV, hm, ?_⟩
  rcases opV_opN x with ⟨h1, h2⟩ | ⟨n, t, h1, h2, h3⟩
  · rw [h1]; rw [h2] at h; exact h u
  · rw [h1]; rw [h2] at h
    have e : ((n.toNat : Nat) : Int) = n := Int.toNat_of_nonneg h3
    simp only [Option.getD_some, e] at h
    exact h t
end
end Mine
theorem Mine.top_off_U1 : True := by
  w_top off
  trivial
section
namespace Mine
local macro_rules | `(tactic| walk_at "compareOp NotIn str ref") => `(tactic| (with_reducible show wpAny _ _ (compareOp CmpOp.NotIn (Value.str _ _) (Value.ref 127)) _ _ _; refine op_notin (by assumption) (by assumption) ?_))
set_option maxRecDepth 100000 in
set_option maxHeartbeats 8000000 in
theorem cut_spec (w : World) (x : Str) (t : Tok) (s : Shared) (hx : x.length ≤ 1000) : Spec2 w 160 [.str x t] [] s (fun v nl => ∃ (W : Addr) (ws : List (Str × Tok)) (k : Nat), v = .ref W ∧ nl = [(W, listOf (strValues ws).toArray k)] ∧ ws.map (·.1.cps.toList) = cut x.cps.toList) := by
  unfold Spec2 SpecA
  k_fill
  intro e e' p loose mean mg mb env outer A₀ base h₀ L m Q E B F X N T hA hf hke hret
  (refine' fn_enter [] _ B F X N T hA hf hke hret ?k6 ?k7 ?k8 ?k9 ?kB ?_ ?c2 ?c3 ?c4 ?c5; (case k6 => k_is); (case k7 => k_is); (case k8 => k_room); (case k9 => exact BindsTo.of_eq rfl); (case c5 => decide); (case kB => exact locs rfl); (case c2 => exact rfl); (case c3 => exact rfl); (case c4 => exact rfl))
  clear hret F B X N T
  intro g L' h₁ hg F' N' B' X' T' hlt
  (try dsimp only)
  k_fold
  lge_go0
  rename_i tk0 W h2 _ h3 h4 F4 N4
  refine exec_cut F4 (CutD x W) ?_ ?_
  · refine While_inv (CutJ x t W) F4 N4 (n₀ := x.length + 3) ⟨0, _, [], _, _, mp_of ⟨rfl, rfl, rfl, trivial⟩, rfl, by simp, rfl, by omega, by simp⟩ ?_ PassesOwn.never
    intro n m₁ news₁ h₁ tk₁ F₁ N₁ J₁
    obtain ⟨a, ta, ws, k, u, rfl, rfl, hc, hn, ha, hw⟩ := J₁
    dsimp only
    k_fold
    lge_go0
    · rename_i hlt' tk5 h5 F5 N5
      have hal : a ≤ x.length := by omega
      refine exec_cut F5 (CutE x t W a ta ws k) ?_ ?_
      · refine While_inv (CutI x t W a ta ws k) F5 N5 (n₀ := 3) ⟨_, _, mp_of ⟨rfl, rfl, rfl, rfl, trivial⟩, rfl, .inl rfl⟩ ?_ PassesOwn.never
        intro n m₁ news₁ h₁ tk₁ F₁ N₁ J₁
        obtain ⟨ts, u, rfl, rfl, hj⟩ := J₁
        dsimp only
        k_fold
        lge_go0
        · rename isOp _ = true => hop
          rw [slice_list x n hal] at hop
          rename Fr _ _ _ _ => F6
          rename News _ _ _ _ => N6
          refine Nxt.intro F6 N6 ⟨ts, u, ?_, rfl⟩
          have : n = cutK (x.cps.toList.drop a) := by
            unfold cutK
            rcases hj with rfl | ⟨rfl, h3⟩ | ⟨rfl, h3, h2⟩
            · simp only [hop, if_true]
            · simp only [h3, hop, if_true, Bool.false_eq_true, if_false]
            · omega
          rw [this]
        · rename isOp _ = false => hop
          rename (1 : Int) < _ => hgt
          rename Fr _ _ _ _ => F7
          rename News _ _ _ _ => N7
          rw [slice_list x n hal] at hop
          dsimp only
          refine WhileStep.intro F7 N7 (n' := n - 1) (by omega) ⟨_, _, mp_of ⟨rfl, rfl, rfl, by (show some _ = some _); congr 2; omega, trivial⟩, rfl, ?_⟩
          rcases hj with rfl | ⟨rfl, h3⟩ | ⟨rfl, h3, h2⟩
          · exact .inr (.inl ⟨rfl, hop⟩)
          · exact .inr (.inr ⟨rfl, h3, hop⟩)
          · omega
        · rename ¬ (1 : Int) < _ => hgt
          refine Nxt.intro F₁ N₁ ⟨ts, u, ?_, rfl⟩
          have : n = cutK (x.cps.toList.drop a) := by
            unfold cutK
            rcases hj with rfl | ⟨rfl, h3⟩ | ⟨rfl, h3, h2⟩
            · omega
            · omega
            · simp only [h3, h2, Bool.false_eq_true, if_false]
          rw [this]
      · intro h' tk' m' news' F' N' J'
        obtain ⟨ts, u, rfl, rfl⟩ := J'
        dsimp only
        lge_go0
        rename_i F6 N6 h7 t7 k7 F7 N7 hsl
        refine append_K F7 N7 (.head (fun _ h => nomatch h)) (fun h8 F8 N8 => ?_) (by simp [strValues]; unfold sizeLine; omega)
        dsimp only
        lge_go0
        rename_i h9 F9 N9
        dsimp only
        have hlen : x.cps.toList.length = x.length := by simp [Str.length]
        have hne : x.cps.toList.drop a ≠ [] := fun q => by
          have := List.drop_eq_nil_iff.mp q
          omega
        have hpos := cutK_pos (x.cps.toList.drop a)
        have hle := cutK_le (x.cps.toList.drop a)
        rw [cut_cons hne, ← slice_list x _ hal, List.drop_drop] at hc
        refine WhileStep.intro F9 N9 (n' := x.length + 3 - (a + cutK (x.cps.toList.drop a))) (by omega)
          ⟨a + cutK (x.cps.toList.drop a), k7, ws ++ [(Txt.slice x (some (a : Int)) (some ((a : Int) + (cutK (x.cps.toList.drop a) : Int))), t7)], k + 1, _, mp_of ⟨rfl, rfl, rfl, trivial⟩, ?_, ?_, rfl, by omega, ?_⟩
        · simp [strValues]
        · simpa using hc
        · simp; omega
    · rename_i hge
      have e0 : x.cps.toList.drop a = [] := List.drop_eq_nil_of_le (by have : x.cps.toList.length = x.length := by simp [Str.length]
                                                                       omega)
      rw [e0, cut_nil, List.append_nil] at hc
      exact Nxt.intro F₁ N₁ ⟨ws, k, _, mp_of ⟨rfl, trivial⟩, rfl, hc⟩
  · intro h' tk' m' news' F9 N9 J9
    obtain ⟨ws, k, u, rfl, rfl, hc⟩ := J9
    dsimp only
    lge_go0
    dsimp only
    exact ⟨_, _, F9, N9, ⟨W, ws, k, rfl, rfl, hc⟩, _, _, rfl⟩
end Mine
end
theorem Mine.top_off_E1 : True := by
  w_top off
  trivial
namespace Mine
noncomputable def escC (x : Str) : Str := rep 13 "&#xD;" (rep 10 "&#xA;" (rep 9 "&#x9;" (rep 34 "&quot;" (rep 60 "&lt;" (rep 38 "&amp;" x)))))
noncomputable def escW (x : Str) : Str := rep 9 "&#09;" (rep 10 "&#10;" (rep 13 "&#13;" (rep 34 "&quot;" (rep 62 "&gt;" (rep 60 "&lt;" (rep 38 "&amp;" x))))))
set_option maxRecDepth 100000 in
set_option maxHeartbeats 8000000 in
theorem esc_spec (w : World) (x : Str) (t : Tok) (s : Shared) (hx : x.length ≤ 22) : Spec w 42 [.str x t] [] s (fun v _ => ∃ t', v = .str (escC x) t') := by
  unfold Spec SpecA
  k_fill
  intro e p loose mean mg mb env outer A₀ base h₀ L m Q E B F X N T hA hf hke hret
  (refine' fn_enter [] _ B F X N T hA hf hke hret ?k6 ?k7 ?k8 ?k9 ?kB ?_ ?c2 ?c3 ?c4 ?c5; (case k6 => k_is); (case k7 => k_is); (case k8 => k_room); (case k9 => exact BindsTo.of_eq rfl); (case c5 => decide); (case kB => exact locs rfl); (case c2 => exact rfl); (case c3 => exact rfl); (case c4 => exact rfl))
  clear hret F B X N T
  intro g L' h₁ hg F' N' B' X' T' hlt
  have l0 := rep_length (c := 38) (z := "&amp;") (x := x) (by decide) (by decide) hx
  have l1 := rep_length (c := 60) (z := "&lt;") (by decide) (by decide) l0
  have l2 := rep_length (c := 34) (z := "&quot;") (by decide) (by decide) l1
  have l3 := rep_length (c := 9) (z := "&#x9;") (by decide) (by decide) l2
  have l4 := rep_length (c := 10) (z := "&#xA;") (by decide) (by decide) l3
  refine wpAny_execs_cons (wpAny_Try_except ?_)
  refine execs_tk 1 (Nat.le_add_left _ _) ?_
  refine if_replace F' N' (by with_unfolding_all rfl) (by omega) (Nat.le_add_left _ _) (c := 38) (by decide +kernel) (by decide +kernel) (by decide +kernel) (fun h2 t2 k2 F2 N2 htk2 => ?_)
  refine execs_tk 1 htk2 ?_
  refine if_replace F2 N2 (by with_unfolding_all rfl) (by omega) htk2 (c := 60) (by decide +kernel) (by decide +kernel) (by decide +kernel) (fun h3 t3 k3 F3 N3 htk3 => ?_)
  refine execs_tk 1 htk3 ?_
  refine if_replace F3 N3 (by with_unfolding_all rfl) (by omega) htk3 (c := 34) (by decide +kernel) (by decide +kernel) (by decide +kernel) (fun h4 t4 k4 F4 N4 htk4 => ?_)
  refine execs_tk 1 htk4 ?_
  refine if_replace F4 N4 (by with_unfolding_all rfl) (by omega) htk4 (c := 9) (by decide +kernel) (by decide +kernel) (by decide +kernel) (fun h5 t5 k5 F5 N5 htk5 => ?_)
  refine execs_tk 1 htk5 ?_
  refine if_replace F5 N5 (by with_unfolding_all rfl) (by omega) htk5 (c := 10) (by decide +kernel) (by decide +kernel) (by decide +kernel) (fun h6 t6 k6 F6 N6 htk6 => ?_)
  refine execs_tk 1 htk6 ?_
  refine if_replace F6 N6 (by with_unfolding_all rfl) (by omega) htk6 (c := 13) (by decide +kernel) (by decide +kernel) (by decide +kernel) (fun h7 t7 k7 F7 N7 htk7 => ?_)
  refine wpAny_execs_cons (wpAny_Return_some (ld F7 (by with_unfolding_all rfl) ?_))
  exact ⟨_, [], F7, (fun _ h => nomatch h), ⟨_, rfl⟩, _, _, rfl⟩
end Mine
theorem Mine.top_off_E2 : True := by
  w_top off
  trivial
namespace Mine
set_option maxRecDepth 100000 in
set_option maxHeartbeats 8000000 in
theorem escW_spec (w : World) (x : Str) (t : Tok) (s : Shared) (hx : x.length ≤ 22) : Spec w 35 [.str x t] [] s (fun v _ => ∃ t', v = .str (escW x) t') := by
  unfold Spec SpecA
  k_fill
  intro e p loose mean mg mb env outer A₀ base h₀ L m Q E B F X N T hA hf hke hret
  (refine' fn_enter [] _ B F X N T hA hf hke hret ?k6 ?k7 ?k8 ?k9 ?kB ?_ ?c2 ?c3 ?c4 ?c5; (case k6 => k_is); (case k7 => k_is); (case k8 => k_room); (case k9 => exact BindsTo.of_eq rfl); (case c5 => decide); (case kB => exact locs rfl); (case c2 => exact rfl); (case c3 => exact rfl); (case c4 => exact rfl))
  clear hret F B X N T
  intro g L' h₁ hg F' N' B' X' T' hlt
  have l0 := rep_length (c := 38) (z := "&amp;") (x := x) (by decide) (by decide) hx
  have l1 := rep_length (c := 60) (z := "&lt;") (by decide) (by decide) l0
  have l2 := rep_length (c := 62) (z := "&gt;") (by decide) (by decide) l1
  have l3 := rep_length (c := 34) (z := "&quot;") (by decide) (by decide) l2
  have l4 := rep_length (c := 13) (z := "&#13;") (by decide) (by decide) l3
  have l5 := rep_length (c := 10) (z := "&#10;") (by decide) (by decide) l4
  refine wpAny_execs_cons (wpAny_Try_except ?_)
  refine execs_tk 1 (Nat.le_add_left _ _) ?_
  refine if_replace F' N' (by with_unfolding_all rfl) (by omega) (Nat.le_add_left _ _) (c := 38) (by decide +kernel) (by decide +kernel) (by decide +kernel) (fun h2 t2 k2 F2 N2 htk2 => ?_)
  refine execs_tk 1 htk2 ?_
  refine if_replace F2 N2 (by with_unfolding_all rfl) (by omega) htk2 (c := 60) (by decide +kernel) (by decide +kernel) (by decide +kernel) (fun h3 t3 k3 F3 N3 htk3 => ?_)
  refine execs_tk 1 htk3 ?_
  refine if_replace F3 N3 (by with_unfolding_all rfl) (by omega) htk3 (c := 62) (by decide +kernel) (by decide +kernel) (by decide +kernel) (fun h4 t4 k4 F4 N4 htk4 => ?_)
  refine execs_tk 1 htk4 ?_
  refine if_replace F4 N4 (by with_unfolding_all rfl) (by omega) htk4 (c := 34) (by decide +kernel) (by decide +kernel) (by decide +kernel) (fun h5 t5 k5 F5 N5 htk5 => ?_)
  refine execs_tk 1 htk5 ?_
  refine if_replace F5 N5 (by with_unfolding_all rfl) (by omega) htk5 (c := 13) (by decide +kernel) (by decide +kernel) (by decide +kernel) (fun h6 t6 k6 F6 N6 htk6 => ?_)
  refine execs_tk 1 htk6 ?_
  refine if_replace F6 N6 (by with_unfolding_all rfl) (by omega) htk6 (c := 10) (by decide +kernel) (by decide +kernel) (by decide +kernel) (fun h7 t7 k7 F7 N7 htk7 => ?_)
  refine execs_tk 1 htk7 ?_
  refine if_replace F7 N7 (by with_unfolding_all rfl) (by omega) htk7 (c := 9) (by decide +kernel) (by decide +kernel) (by decide +kernel) (fun h8 t8 k8 F8 N8 htk8 => ?_)
  refine wpAny_execs_cons (wpAny_Return_some (ld F8 (by with_unfolding_all rfl) ?_))
  exact ⟨_, [], F8, (fun _ h => nomatch h), ⟨_, rfl⟩, _, _, rfl⟩
end Mine
theorem Mine.top_off_H0 : True := by
  w_top off
  trivial
set_option maxRecDepth 100000
namespace Mine
section
variable {prog : Program} {w : World} {A : Around} {E : Value → Shared → Prop} {s : Shared} {h₀ : Heap} {L : Addr} {env : Env}
theorem execs_cutT {st : Stmt} {rest : List Stmt} {m : Str → Option Value} {Q : Flow → Shared → Prop} (_F : Fr h₀ L s.heap m) (n : Nat) (hn : n ≤ s.toks) (J : (Str → Option Value) → List (Addr × Obj) → Prop)
    (h1 : wpAny (model prog w) A (exec st env) (Nxt h₀ L s J) E s)
    (h2 : ∀ h' tk' m' news', n ≤ tk' → Fr h₀ L h' m' → News h₀ L h' news' → J m' news' → wpAny (model prog w) A (execs rest env) Q E { s with heap := h', toks := tk' }) :
    wpAny (model prog w) A (execs (st :: rest) env) Q E s := by
  refine wpAny_execs_cons (wpAny_mono (wpAny_toks_of hn h1) (fun f s' x => ?_) fun _ _ x => x.2)
  obtain ⟨ht, rfl, h', tk', m', news', rfl, F, N, hJ⟩ := x
  exact h2 h' tk' m' news' ht F N hJ
end
noncomputable def entity (nm : List Nat) : List Nat := if nm = [97, 109, 112] then [38] else if nm = [108, 116] then [60] else if nm = [103, 116] then [62] else [9]
noncomputable def unStep (st : List Nat × Option (List Nat)) (wd : List Nat) : List Nat × Option (List Nat) :=
  match st.2 with
  | some nm => if (opN wd).getD 0 = 13 then (st.1 ++ entity nm, none) else (st.1, some (nm ++ wd))
  | none => if (opN wd).getD 0 = 19 then (st.1, some []) else (st.1 ++ wd, none)
noncomputable def NameIs (nv : Value) : Option (List Nat) → Prop
  | none => nv = .none
  | some l => ∃ y t, nv = .str y t ∧ y.cps.toList = l
noncomputable def UnJ (ws : List (Str × Tok)) (W : Addr) (k : Nat) (C : Addr) (i : Nat) (m : Str → Option Value) (nx : List (Addr × Obj)) : Prop :=
  ∃ (st : List Nat × Option (List Nat)) (T : Str) (tt : Tok) (nv : Value) (u : Str → Option Value) (o : PySem.Obj) (vv : Option Value),
    m = mp [("text", .str T tt), ("name", nv)] u ∧ nx = [(W, listOf (strValues ws).toArray k), (C, o)] ∧ o.data = .cell vv ∧ ((ws.take i).map (·.1.cps.toList)).foldl unStep ([], none) = st ∧ T.cps.toList = st.1 ∧ NameIs nv st.2 ∧
    T.length + (st.2.getD []).length ≤ (((ws.take i).map (·.1.cps.toList)).map List.length).sum
noncomputable def unText (l : List Nat) : List Nat := ((cut l).foldl unStep ([], none)).1
noncomputable def UnD (x : Str) (C : Addr) (m : Str → Option Value) (nx : List (Addr × Obj)) : Prop :=
  ∃ (T : Str) (tt : Tok) (u : Str → Option Value) (o : PySem.Obj) (vv : Option Value), m = mp [("text", .str T tt)] u ∧ nx = [(C, o)] ∧ o.data = .cell vv ∧ T.cps.toList = unText x.cps.toList ∧ T.length ≤ x.length
theorem strValues_get {ws : List (Str × Tok)} {i : Nat} {v : Value} (h : (strValues ws)[i]? = some v) : ∃ q, ws[i]? = some q ∧ v = .str q.1 q.2 := by
  unfold strValues at h
  rw [List.getElem?_map] at h
  cases e : ws[i]? with
  | none => rw [e] at h; cases h
  | some q => rw [e] at h; exact ⟨q, rfl, (Option.some.inj h).symm⟩
theorem cut_flat : ∀ (n : Nat) (l : List Nat), l.length ≤ n → (cut l).flatten = l := by
  intro n
  induction n with
  | zero => intro l h; rw [List.length_eq_zero_iff.mp (Nat.le_zero.mp h), cut_nil]; rfl
  | succ n ih =>
    intro l h
    by_cases hl : l = []
    · rw [hl, cut_nil]; rfl
    · have h1 := cutK_pos l
      have h2 : 0 < l.length := List.length_pos_iff.mpr hl
      rw [cut_cons hl, List.flatten_cons, ih _ (by rw [List.length_drop]; omega), List.take_append_drop]
theorem cut_sum (l : List Nat) : ((cut l).map List.length).sum = l.length := by
  have h := congrArg List.length (cut_flat _ l (Nat.le_refl _))
  rwa [List.length_flatten] at h
theorem sum_take_le (l : List (List Nat)) (i : Nat) : ((l.take i).map List.length).sum ≤ (l.map List.length).sum := by
  conv => rhs; rw [← List.take_append_drop i l, List.map_append, List.sum_append]
  omega
theorem ent_flat {v : Value} {y : Str} (h : PyProof.V.Flat v ((Spec.lookup (.str y) [(.str (Str.ofString "amp"), .str (Str.ofString "&")), (.str (Str.ofString "lt"), .str (Str.ofString "<")), (.str (Str.ofString "gt"), .str (Str.ofString ">"))]).getD (.str (Str.ofString "\t")))) :
    ∃ z t, v = .str z t ∧ z.cps.toList = entity y.cps.toList ∧ z.length = 1 := by
  have key : ∀ z : Str, PyProof.V.Flat v (.str z) → ∃ t, v = .str z t := fun z hz => by
    have := hz default
    cases this
    exact ⟨_, rfl⟩
  have ext : ∀ (a : Str) (l : List Nat), a.cps.toList = l → (PySem.Spec.same (.str a) (.str y) = decide (y.cps.toList = l)) := fun a l e => by
    subst e
    show (a == y) = _
    rw [Bool.eq_iff_iff, beq_iff_eq, decide_eq_true_eq]
    exact ⟨fun q => by rw [q], fun q => (Str.ext' (Array.ext' q)).symm⟩
  unfold entity
  simp only [Spec.lookup, ext _ _ (show (Str.ofString "amp").cps.toList = [97, 109, 112] by decide +kernel), ext _ _ (show (Str.ofString "lt").cps.toList = [108, 116] by decide +kernel), ext _ _ (show (Str.ofString "gt").cps.toList = [103, 116] by decide +kernel)] at h
  by_cases h1 : y.cps.toList = [97, 109, 112]
  · simp only [h1, decide_true, if_true, Option.getD_some] at h ⊢
    obtain ⟨t, rfl⟩ := key _ h
    exact ⟨_, t, rfl, by decide +kernel, by decide +kernel⟩
  · simp only [h1, decide_false, if_false, Bool.false_eq_true] at h ⊢
    by_cases h2 : y.cps.toList = [108, 116]
    · simp only [h2, decide_true, if_true, Option.getD_some] at h ⊢
      obtain ⟨t, rfl⟩ := key _ h
      exact ⟨_, t, rfl, by decide +kernel, by decide +kernel⟩
    · simp only [h2, decide_false, if_false, Bool.false_eq_true] at h ⊢
      by_cases h3 : y.cps.toList = [103, 116]
      · simp only [h3, decide_true, if_true, Option.getD_some] at h ⊢
        obtain ⟨t, rfl⟩ := key _ h
        exact ⟨_, t, rfl, by decide +kernel, by decide +kernel⟩
      · simp only [h3, decide_false, if_false, Bool.false_eq_true, Option.getD_none] at h ⊢
        obtain ⟨t, rfl⟩ := key _ h
        exact ⟨_, t, rfl, by decide +kernel, by decide +kernel⟩
theorem take_fold {ws : List (Str × Tok)} {i : Nat} {y : Str} {ty : Tok} {st : List Nat × Option (List Nat)} (hy : ws[i]? = some (y, ty)) (hst : ((ws.take i).map (·.1.cps.toList)).foldl unStep ([], none) = st) :
    ((ws.take (i + 1)).map (·.1.cps.toList)).foldl unStep ([], none) = unStep st y.cps.toList := by
  rw [List.take_add_one, hy]
  simp only [Option.toList_some, List.map_append, List.map_cons, List.map_nil, List.foldl_append, hst, List.foldl_cons, List.foldl_nil]
theorem take_sum {ws : List (Str × Tok)} {i : Nat} {y : Str} {ty : Tok} (hy : ws[i]? = some (y, ty)) :
    (((ws.take (i + 1)).map (·.1.cps.toList)).map List.length).sum = (((ws.take i).map (·.1.cps.toList)).map List.length).sum + y.length := by
  rw [List.take_add_one, hy]
  simp [Str.length]
theorem opN_nil : opN [] = none := by decide +kernel
theorem opN_pos {y : Str} (h : (opN y.cps.toList).getD 0 = 13) : 1 ≤ y.length := by
  cases e : y.cps.toList with
  | nil => rw [e, opN_nil] at h; cases h
  | cons a r => have : y.cps.toList.length = y.length := by simp [Str.length]
                rw [e, List.length_cons] at this; omega
noncomputable def bellNo (b : List Nat) : List Nat := sub1 9 [] b
noncomputable def bellN (b : List Nat) : Nat := (opN (bellNo b)).getD 0
theorem drop_one_str (l : List (Str × Tok)) : slicePick (strValues l).toArray (some 1) none none = (strValues (l.drop 1)).toArray := by
  have := slicePick_from' (strValues l).toArray 1
  rw [show ((1 : Nat) : Int) = 1 from rfl] at this
  rw [this]
  simp [strValues, List.map_drop]
noncomputable def splitL (c : Nat) : List Nat → List (List Nat)
  | [] => [[]]
  | k :: r => if k = c then [] :: splitL c r else match splitL c r with
    | [] => [[k]]
    | p :: q => (k :: p) :: q
theorem splitL_ne (c : Nat) : ∀ l, splitL c l ≠ []
  | [] => by simp [splitL]
  | k :: r => by
    unfold splitL
    split
    · simp
    · split <;> simp
theorem splitL_free {c : Nat} : ∀ {p : List Nat}, c ∉ p → splitL c p = [p]
  | [], _ => rfl
  | k :: r, h => by
    have h1 : k ≠ c := fun e => h (e ▸ List.mem_cons_self ..)
    have h2 := splitL_free (c := c) (p := r) fun q => h (List.mem_cons_of_mem _ q)
    simp [splitL, h1, h2]
theorem splitL_cons {c : Nat} (l : List Nat) : ∀ {p : List Nat}, c ∉ p → splitL c (p ++ c :: l) = p :: splitL c l
  | [], _ => by simp [splitL]
  | k :: r, h => by
    have h1 : k ≠ c := fun e => h (e ▸ List.mem_cons_self ..)
    have h2 := splitL_cons l (p := r) fun q => h (List.mem_cons_of_mem _ q)
    rw [List.cons_append, splitL, if_neg h1, h2]
theorem splitL_length (c : Nat) : ∀ l, (splitL c l).length ≤ l.length + 1
  | [] => by simp [splitL]
  | k :: r => by
    have h2 := splitL_length c r
    unfold splitL
    split
    · simp; exact h2
    · split <;> rename_i e <;> rw [e] at h2 <;> simp_all; omega
theorem splitL_join (c : Nat) : ∀ parts : List Str, parts ≠ [] → (∀ p ∈ parts, c ∉ p.cps.toList) → splitL c (Str.join ⟨#[c]⟩ parts).cps.toList = parts.map (·.cps.toList)
  | [], h, _ => absurd rfl h
  | [p], _, h => splitL_free (h p (List.mem_singleton.mpr rfl))
  | p :: q :: r, _, h => by
    have ih := splitL_join c (q :: r) (by simp) fun a ha => h a (List.mem_cons_of_mem _ ha)
    show splitL c (p ++ ⟨#[c]⟩ ++ Str.join ⟨#[c]⟩ (q :: r)).cps.toList = p.cps.toList :: _
    simp only [Str.cps_append, Array.toList_append, List.append_assoc]
    rw [← ih]
    exact splitL_cons _ (h p (List.mem_cons_self ..))
theorem split_is (x : Str) (c : Nat) : (Txt.split x ⟨#[c]⟩).map (·.cps.toList) = splitL c x.cps.toList := by
  by_cases hn : Txt.split x ⟨#[c]⟩ = []
  · exfalso
    revert hn
    unfold Txt.split
    split
    · simp
    · split
      · simp
      · generalize Builtin.Str.occurrences x ⟨#[c]⟩ 0 x.length (x.length + 1) = o
        unfold Builtin.Str.partsBetween
        cases o <;> simp
  · rw [← splitL_join c _ hn (StrLaws.split_free x c), StrLaws.join_split]
noncomputable def bellsOf (l : List Nat) : List (List Nat) := (splitL 32 (sub1 9 [32, 9] (unText l))).drop 1
noncomputable def BlJ (x : Str) (C : Addr) (m : Str → Option Value) (nx : List (Addr × Obj)) : Prop :=
  ∃ (Bd : Addr) (bl : List (Str × Tok)) (k : Nat) (u : Str → Option Value) (o : PySem.Obj) (vv : Option Value), m = mp [("bells", .ref Bd)] u ∧ nx = [(Bd, listOf (strValues bl).toArray k), (C, o)] ∧ o.data = .cell vv ∧
    (∀ q ∈ bl, q.1.length ≤ 6000) ∧ bl.length ≤ 6000 ∧ bl.map (·.1.cps.toList) = bellsOf x.cps.toList
theorem opN_le (l : List Nat) : (opN l).getD 0 ≤ 54 := by
  have h : opTab.all (fun r => decide (r.2 ≤ 54)) = true := by decide +kernel
  unfold opN
  cases e : opTab.find? fun r => r.1 == l with
  | none => decide
  | some r => exact of_decide_eq_true (List.all_eq_true.mp h r (List.mem_of_find?_eq_some e))
noncomputable def hStep (l : List (Bool × Int)) (st : Int × Int) (n : Int) : Int × Int :=
  let at' := (l.map (·.2)).idxOf n
  let ahead := (((l.map (·.2)).take at').filter fun o => decide (o < n)).length
  (if (l[at']?.getD (false, 0)).1 then st.1 * (st.2 + 1) + (ahead : Int) else st.1 * (st.2 + 1) + (st.2 + 1) - 1 - (ahead : Int), st.2 + 1)
noncomputable def hourZ (l : List (Bool × Int)) : Int := ((isort (l.map (·.2))).foldl (hStep l) (0, 0)).1
noncomputable def bellRow (b : List Nat) : Bool × Int := (decide (b.head? = some 9), ((bellN b : Nat) : Int))
noncomputable def pageHour (l : List Nat) : Int := hourZ ((bellsOf l).map bellRow)
theorem paired_ints {bl : List (Str × Tok)} {ys : List Value} (h : Paired (fun v y => ∃ b tb tk, v = Value.str b tb ∧ y = Value.int ((bellN b.cps.toList : Nat) : Int) tk) (strValues bl) ys) :
    IntsAre ys (bl.map fun q => ((bellN q.1.cps.toList : Nat) : Int)) := by
  induction bl generalizing ys with
  | nil => cases h; exact .nil
  | cons q r ih =>
    cases h with
    | cons h1 h2 =>
      obtain ⟨b, tb, tk, e1, rfl⟩ := h1
      cases e1
      exact .cons _ _ (ih h2)
noncomputable def HrJ (l : List (Bool × Int)) (Bd D S C : Addr) (oB oD oS : PySem.Obj) (ns : List Int) (i : Nat) (m : Str → Option Value) (nx : List (Addr × Obj)) : Prop :=
  ∃ (hz kz : Int) (th tk : Tok) (u : Str → Option Value) (o : PySem.Obj) (vv : Option Value),
    m = mp [("bells", .ref Bd), ("numbers", .ref D), ("hour", .int hz th), ("size", .int kz tk)] u ∧ nx = [(S, oS), (D, oD), (Bd, oB), (C, o)] ∧ o.data = .cell vv ∧ (ns.take i).foldl (hStep l) (0, 0) = (hz, kz) ∧ kz = (i : Int) ∧ hz ≤ ((20 ^ i : Nat) : Int) ∧ -((20 ^ i : Nat) : Int) ≤ hz
theorem ints_get : ∀ {vs : List Value} {ns : List Int} {i : Nat} {v : Value}, IntsAre vs ns → vs[i]? = some v → ∃ n t, v = .int n t ∧ ns[i]? = some n
  | _, _, _, _, .nil, h => by simp at h
  | _, _, 0, _, .cons n t r, h => by
    rw [List.getElem?_cons_zero] at h
    exact ⟨n, t, (Option.some.inj h).symm, rfl⟩
  | _, _, i + 1, _, .cons n t r, h => by
    rw [List.getElem?_cons_succ] at h
    rw [List.getElem?_cons_succ]
    exact ints_get r h
theorem ints_take : ∀ {vs : List Value} {ns : List Int} (i : Nat), IntsAre vs ns → IntsAre (vs.take i) (ns.take i)
  | _, _, 0, _ => .nil
  | _, _, _ + 1, .nil => .nil
  | _, _, i + 1, .cons n t r => .cons n t (ints_take i r)
noncomputable def ltV (n : Int) (v : Value) : Bool := match v with
  | .int o _ => decide (o < n)
  | _ => false
theorem ints_filter_len (n : Int) : ∀ {vs : List Value} {ns : List Int}, IntsAre vs ns → (vs.filter (ltV n)).length = (ns.filter fun o => decide (o < n)).length
  | _, _, .nil => rfl
  | _, _, .cons k t r => by
    have ih := ints_filter_len n r
    simp only [List.filter_cons, ltV]
    by_cases h : k < n
    · simp only [h, decide_true, if_true, List.length_cons]; rw [← ih]
    · simp only [h, decide_false, if_false, Bool.false_eq_true]; rw [← ih]
theorem paired_len {α β : Type} {F : α → β → Prop} : ∀ {l₁ : List α} {l₂ : List β}, Paired F l₁ l₂ → l₂.length = l₁.length
  | _, _, .nil => rfl
  | _, _, .cons _ r => by simp only [List.length_cons, paired_len r]
theorem pow20 {i : Nat} (h : i < 5) : (20 ^ i : Nat) ≤ 160000 ∧ 1 ≤ (20 ^ i : Nat) := by
  have : i = 0 ∨ i = 1 ∨ i = 2 ∨ i = 3 ∨ i = 4 := by omega
  rcases this with rfl | rfl | rfl | rfl | rfl <;> decide
theorem hr_bound {i : Nat} {hz kz : Int} {ah : Nat} (hi : i < 5) (hk : kz = (i : Int)) (ha : ah ≤ 5) (h1 : hz ≤ ((20 ^ i : Nat) : Int)) (h2 : -((20 ^ i : Nat) : Int) ≤ hz) :
    hz * (kz + 1) + (ah : Int) ≤ ((20 ^ (i + 1) : Nat) : Int) ∧ -((20 ^ (i + 1) : Nat) : Int) ≤ hz * (kz + 1) + (ah : Int) ∧ hz * (kz + 1) + (kz + 1) - 1 - (ah : Int) ≤ ((20 ^ (i + 1) : Nat) : Int) ∧ -((20 ^ (i + 1) : Nat) : Int) ≤ hz * (kz + 1) + (kz + 1) - 1 - (ah : Int) := by
  subst hk
  have : i = 0 ∨ i = 1 ∨ i = 2 ∨ i = 3 ∨ i = 4 := by omega
  rcases this with rfl | rfl | rfl | rfl | rfl <;> simp at * <;> omega
theorem bell_nos {bl : List (Str × Tok)} {l : List Nat} (hbl : bl.map (·.1.cps.toList) = bellsOf l) : ((bellsOf l).map bellRow).map (·.2) = bl.map fun q => ((bellN q.1.cps.toList : Nat) : Int) := by
  rw [← hbl, List.map_map, List.map_map]
  rfl
theorem hr_step {bl : List (Str × Tok)} {l : List Nat} (hbl : bl.map (·.1.cps.toList) = bellsOf l) {ns' : List Int} {i at' ah : Nat} {n hz kz : Int} {b : Str} {tb : Tok}
    (hst : (ns'.take i).foldl (hStep ((bellsOf l).map bellRow)) (0, 0) = (hz, kz)) (hn : ns'[i]? = some n) (hat : (bl.map fun q => ((bellN q.1.cps.toList : Nat) : Int)).idxOf n = at') (hb : bl[at']? = some (b, tb))
    (hah : ah = (((bl.map fun q => ((bellN q.1.cps.toList : Nat) : Int)).take at').filter fun o => decide (o < n)).length) :
    (ns'.take (i + 1)).foldl (hStep ((bellsOf l).map bellRow)) (0, 0) = (if decide (b.cps.toList.head? = some 9) then hz * (kz + 1) + (ah : Int) else hz * (kz + 1) + (kz + 1) - 1 - (ah : Int), kz + 1) := by
  rw [List.take_add_one, hn, List.foldl_append, hst]
  show hStep _ (hz, kz) n = _
  unfold hStep
  simp only [bell_nos hbl, hat, ← hah]
  have e : ((bellsOf l).map bellRow)[at']? = some (bellRow b.cps.toList) := by
    rw [← hbl, List.getElem?_map, List.getElem?_map, hb]
    rfl
  rw [e]
  rfl
open Builtin.Str in
theorem slice_none (x : Str) (n : Nat) : Txt.slice x none (some ((n : Nat) : Int)) = Txt.slice x (some ((0 : Nat) : Int)) (some (((0 : Nat) : Int) + (n : Int))) := by
  have e : strSliceIndices none (some ((n : Nat) : Int)) 1 x.length = strSliceIndices (some ((0 : Nat) : Int)) (some (((0 : Nat) : Int) + (n : Int))) 1 x.length := by
    have h2 : ¬ (((n : Nat) : Int) < 0) := by omega
    simp only [strSliceIndices, h2, if_false, show ((1 : Int) > 0) = True from by simp, if_true, Int.natCast_zero, Int.zero_add]
    have h3 : max (0 : Int) (min 0 (x.length : Int)) = 0 := by omega
    simp [h3]
  unfold Txt.slice
  rw [e]
theorem first_tab (b : Str) : (Txt.slice b none (some 1) == Str.ofString "\t") = decide (b.cps.toList.head? = some 9) := by
  have h1 := slice_list b 1 (Nat.zero_le _)
  rw [← slice_none] at h1
  rw [Bool.eq_iff_iff, beq_iff_eq, decide_eq_true_eq]
  have e : (Str.ofString "\t").cps.toList = [9] := by decide +kernel
  constructor
  · intro h
    have h2 := congrArg (fun z : Str => z.cps.toList) h
    rw [show (1 : Int) = ((1 : Nat) : Int) from rfl, h1, e] at h2
    cases h3 : b.cps.toList with
    | nil => rw [h3] at h2; cases h2
    | cons a r => rw [h3] at h2; simp at h2; simp [h2]
  · intro h
    apply Str.ext'
    apply Array.ext'
    rw [show (1 : Int) = ((1 : Nat) : Int) from rfl, h1, e]
    cases h3 : b.cps.toList with
    | nil => rw [h3] at h; cases h
    | cons a r => rw [h3] at h; simp at h; simp [h]
end Mine
theorem Mine.top_off_H1 : True := by
  w_top off
  trivial
section
namespace Mine
local macro_rules | `(tactic| walk_at "call builtin:dict.get") => `(tactic| (with_reducible show wpAny _ _ (call (Value.builtin _) [Value.ref 127, Value.str _ _, Value.int 0 _]) _ _ _; refine op_get (by assumption) (by assumption) (fun _ => ?_)))
local macro_rules | `(tactic| walk_at "binaryOp Add str str") => `(tactic| (refine add_str (fun _ _ => ?_) (by rw [sizeLine_eq]; omega)))
set_option maxRecDepth 100000 in
set_option maxHeartbeats 8000000 in
theorem hour_spec (w : World) (x : Str) (t : Tok) (s : Shared) (hx : x.length ≤ 1000) (hx5 : (bellsOf x.cps.toList).length ≤ 5) : Spec w 165 [.str x t] [] s (fun v nl => (∃ th, v = .int (pageHour x.cps.toList) th) ∧ nl = []) := by
  unfold Spec SpecA
  k_fill
  intro e p loose mean mg mb env outer A₀ base h₀ L m Q E B F X N T hA hf hke hret
  (refine' fn_enterC [] _ B F X N T hA hf hke hret ?k6 ?k7 ?k8 ?k9 ?kB ?kD ?_ ?c2 ?c3 ?c4; (case k6 => k_is); (case k7 => k_is); (case k8 => k_room); (case k9 => exact BindsTo.of_eq rfl); (case kB => exact rfl); (case kD => decide +kernel); (case c2 => exact rfl); (case c3 => exact rfl); (case c4 => exact rfl))
  clear hret F B X N T
  intro g L' h₁ tk' cells' hg F' N' Y' B' X' T' hlt
  k_cells Y'
  simp only [List.cons_append, List.nil_append] at N'
  (try dsimp only)
  try k_fold
  lge_go0
  rename Fr _ _ _ _ => F1
  rename News _ _ _ _ => N1
  rename PySem.Obj => o1
  refine exec_cutT F1 1 (Nat.le_add_left _ _) (UnD x (L' + 1)) ?_ ?_
--B1
  · refine For_invTF F1 ?_ (fun _ => by with_unfolding_all rfl) PassesOwn.never
    lge_go0
    refine cut_spec w x _ _ hx e _ _ _ _ _ _ _ _ _ _ _ _ _ _ _ B' F1 X' .nil T' (Around.frames_deeper hA) rfl rfl ?_
    intro v nl h2 tk2 F2 K2 hn2 P2
    obtain ⟨W, ws, k, rfl, rfl, hws⟩ := P2
    have N2 := news_add F1 N1 K2 hn2
    have hWL : @Ne Nat W (L' + 1) := fun e => by
      have h1 := (hn2 _ (.head _)).2.resolve_left List.not_mem_nil
      have h2 := (N1 _ (.head _)).1
      dsimp only at h1 h2
      rw [e, h2] at h1; cases h1
    dsimp only
    lge_go0
    have htot : ∀ i, (((ws.take i).map (·.1.cps.toList)).map List.length).sum ≤ 1000 := fun i => by
      rw [List.map_take, hws]
      have h1 := sum_take_le (cut x.cps.toList) i
      rw [cut_sum] at h1
      have : x.cps.toList.length = x.length := by simp [Str.length]
      omega
    refine iter_list (listOf (strValues ws).toArray k) (UnJ ws W k (L' + 1)) rfl rfl ⟨_, rfl⟩ F2 N2 (.inr ?_) ?_ ?_ ?_
    · rintro i m nx ⟨st, T, tt, nv, u, o, vv, rfl, rfl, _⟩
      exact .head _
    · exact ⟨_, _, _, _, _, _, _, mp_of ⟨rfl, rfl, trivial⟩, rfl, by assumption, rfl, rfl, rfl, by simp [Str.length]; decide +kernel⟩
    · intro i v m₁ nx s₁ I oI hv hJ hoff F₃ N₃
      obtain ⟨⟨s1, s2⟩, T, tt, nv, u, o, vv, rfl, rfl, hdat, hst, hT, hN, hlen⟩ := hJ
      obtain ⟨⟨y, ty⟩, hy, rfl⟩ := strValues_get hv
      have hWI : @Ne Nat W I := hoff _ (.head _)
      have hLI : @Ne Nat (L' + 1) I := hoff _ (.tail _ (.head _))
      have hty := take_sum hy
      have htot1 := htot i
      have htot2 := htot (i + 1)
      have hfold := take_fold hy hst
      dsimp only at hT hlen
      dsimp only
      cases s2 with
      | none =>
        have hN : nv = .none := hN
        subst hN
        simp only [Option.getD_none, List.length_nil, Nat.add_zero] at hlen
        have hT1 : T.length ≤ 1000 := by omega
        have hy1 : y.length ≤ 1000 := by omega
        lge_go0
        · rename Fr _ _ _ _ => F4
          rename News _ _ _ _ => N4
          rename (_ : Int) = 19 => hnum
          have e : unStep (s1, none) y.cps.toList = (s1, some []) := by
            have : (opN y.cps.toList).getD 0 = 19 := by omega
            simp [unStep, this]
          rw [e] at hfold
          exact Trn.intro [(W, listOf (strValues ws).toArray k), (L' + 1, _)] F4 N4 (fun p hp => .tail _ hp) (.head _) (off2 hWI hLI)
            ⟨_, _, _, _, _, _, _, mp_of ⟨rfl, rfl, trivial⟩, rfl, by assumption, hfold, hT, ⟨_, _, rfl, by decide +kernel⟩, by rw [hty]; simp only [Option.getD_some, List.length_nil]; omega⟩
        · rename Fr _ _ _ _ => F4
          rename News _ _ _ _ => N4
          rename ¬ (_ : Int) = 19 => hnum
          have e : unStep (s1, none) y.cps.toList = (s1 ++ y.cps.toList, none) := by
            have : ¬ (opN y.cps.toList).getD 0 = 19 := by omega
            simp [unStep, this]
          rw [e] at hfold
          exact Trn.intro [(W, listOf (strValues ws).toArray k), (L' + 1, _)] F4 N4 (fun p hp => .tail _ hp) (.head _) (off2 hWI hLI)
            ⟨_, _, _, _, _, _, _, mp_of ⟨rfl, rfl, trivial⟩, rfl, by assumption, hfold, by simp [Str.cps_append, hT], rfl, by rw [hty]; simp only [Option.getD_none, List.length_nil, Str.length_append]; omega⟩
      | some nm =>
        obtain ⟨y2, t2, rfl, hy2⟩ := hN
        have hl2 : y2.length = nm.length := by rw [← hy2]; simp [Str.length]
        simp only [Option.getD_some] at hlen
        have hT1 : T.length ≤ 1000 := by omega
        have hy1 : y.length ≤ 1000 := by omega
        have hy21 : y2.length ≤ 1000 := by omega
        lge_go0
        · rename PyProof.V.Flat _ _ => hfl
          obtain ⟨z, tz, rfl, hz, hz1⟩ := ent_flat hfl
          rename (_ : Int) = 13 => hnum
          refine add_str (fun t5 k5 => ?_) (by rw [sizeLine_eq]; omega)
          dsimp only
          lge_go0
          rename Fr _ _ _ _ => F4
          rename News _ _ _ _ => N4
          have e : unStep (s1, some nm) y.cps.toList = (s1 ++ entity nm, none) := by
            have : (opN y.cps.toList).getD 0 = 13 := by omega
            simp [unStep, this]
          have hpos := opN_pos (y := y) (by omega)
          rw [e] at hfold
          rw [hy2] at hz
          exact Trn.intro [(W, listOf (strValues ws).toArray k), (L' + 1, _)] F4 N4 (fun p hp => .tail _ (.tail _ hp)) (.tail _ (.head _)) (off2 hWI hLI)
            ⟨_, _, _, _, _, _, _, mp_of ⟨rfl, rfl, trivial⟩, rfl, by assumption, hfold, by simp [Str.cps_append, hT, hz], rfl, by rw [hty]; simp only [Option.getD_none, List.length_nil, Str.length_append]; omega⟩
        · rename Fr _ _ _ _ => F4
          rename News _ _ _ _ => N4
          rename ¬ (_ : Int) = 13 => hnum
          have e : unStep (s1, some nm) y.cps.toList = (s1, some (nm ++ y.cps.toList)) := by
            have : ¬ (opN y.cps.toList).getD 0 = 13 := by omega
            simp [unStep, this]
          rw [e] at hfold
          have hyl : y.cps.toList.length = y.length := by simp [Str.length]
          exact Trn.intro [(W, listOf (strValues ws).toArray k), (L' + 1, _)] F4 N4 (fun p hp => .tail _ hp) (.head _) (off2 hWI hLI)
            ⟨_, _, _, _, _, _, _, mp_of ⟨rfl, rfl, trivial⟩, rfl, by assumption, hfold, hT, ⟨_, _, rfl, by simp [Str.cps_append, hy2]⟩, by rw [hty]; simp only [Option.getD_some, List.length_append, hyl]; omega⟩
    · rintro m₁ nx h tk ⟨st, T, tt, nv, u, o, vv, rfl, rfl, hdat, hst, hT, hN, hlen⟩ F4 N4
      have hvl : (strValues ws).length = ws.length := by simp [strValues]
      rw [hvl, List.take_length, hws] at hst hlen
      rw [cut_sum] at hlen
      have hxl : x.cps.toList.length = x.length := by simp [Str.length]
      exact Nxt.intro F4 (fun p hp => N4 p (.tail _ hp)) ⟨T, tt, _, o, vv, mp_of ⟨rfl, trivial⟩, rfl, hdat, by rw [hT, ← hst]; rfl, by omega⟩
--B2
  · rintro h5 tk5 m5 nx5 htk5 F5 N5 ⟨T, tt, u, o, vv, rfl, rfl, hdat, hT, hTl⟩
    have hT1 : T.length ≤ 1000 := by omega
    dsimp only
    refine execs_cutT F5 1 htk5 (BlJ x (L' + 1)) ?_ ?_
    · lge_go0
      refine SC.replaceW (Nat.ne_of_gt htk5) (Nat.succ_ne_zero _) (Nat.ne_of_lt (Nat.lt_succ_self _)) (by decide +kernel) (by omega) (by decide +kernel) fun t6 k6 => ?_
      rw [show Str.ofString "\t" = ⟨#[9]⟩ from by decide +kernel, replace_rep]
      have hl6 := rep_length (c := 9) (z := Str.ofString " \t") (x := T) (by decide +kernel) (by decide +kernel) hT1
      lge_go0
      rename StrsAre _ _ => hstrs
      rename List.map _ _ = Txt.split _ _ => hsplit
      rename ∀ (a : Str), _ => hlens
      rename List (Str × Tok) => bl0
      rename Fr _ _ _ _ => F6
      rename News _ _ _ _ => N6
      rw [drop_one_str] at N6
      have hsp : bl0.map (·.1.cps.toList) = splitL 32 (sub1 9 [32, 9] (unText x.cps.toList)) := by
        rw [show Str.ofString " " = ⟨#[32]⟩ from by decide +kernel] at hsplit
        have := congrArg (List.map (·.cps.toList)) hsplit
        rw [split_is, List.map_map] at this
        rw [← hT]
        exact this
      have hblen : ∀ q ∈ bl0.drop 1, q.1.length ≤ 6000 := fun q hq => by
        have := hlens q.1 (List.mem_map_of_mem (List.mem_of_mem_drop hq))
        omega
      dsimp only at F6 N6
      obtain ⟨Bd, hBd⟩ := ex_addr F6
      rw [hBd] at F6 N6
      refine Nxt.intro F6 (news' := [(Bd, listOf (strValues (bl0.drop 1)).toArray 0), (L' + 1, o)]) (fun p hp => N6 p ?_) ⟨Bd, bl0.drop 1, _, _, o, vv, mp_of ⟨rfl, trivial⟩, rfl, hdat, hblen, ?_, ?_⟩
      · rcases List.mem_cons.mp hp with rfl | hp
        · exact .head _
        · exact .tail _ (.tail _ hp)
      · have h1 := congrArg List.length hsp
        have h2 := splitL_length 32 (sub1 9 [32, 9] (unText x.cps.toList))
        rw [List.length_map] at h1
        rw [← hT] at h2 h1
        have h3 : (sub1 9 [32, 9] T.cps.toList).length = (rep 9 (Str.ofString " \t") T).length := by
          show _ = Str.length ⟨_⟩
          rw [show (Str.ofString " \t").cps.toList = [32, 9] from by decide +kernel]
          simp [Str.length]
        rw [List.length_drop]
        omega
      · rw [List.map_drop, hsp]; rfl
    rintro h6 tk6 m6 nx6 htk6 F6 N6 ⟨Bd, bl, kB, u6, o6, vv6, rfl, rfl, hdat6, hblen, hbln, hbl⟩
    clear hdat hT hTl hT1 F5 N5
    dsimp only
    refine wpAny_execs_cons ?_
    refine assign_comp (cl := []) F6 (fun _ => true) (fun v y => ∃ b tb tk, v = .str b tb ∧ y = .int ((bellN b.cps.toList : Nat) : Int) tk) rfl (by with_unfolding_all rfl) (by with_unfolding_all rfl) (by decide) rfl (by decide) (by with_unfolding_all rfl) (by with_unfolding_all rfl) (by with_unfolding_all rfl) ?_ (fun _ => by with_unfolding_all rfl)
    lge_go0
    have hLf : ∀ q ∈ bl, q.1.length ≤ 1048576 := fun q hq => Nat.le_trans (hblen q hq) (by decide)
    refine ⟨Bd, strValues bl, _, _, rfl, ⟨_, (N6 _ (.head _)).1, rfl, _, rfl⟩, F6, N6, ?_, ?_, ?_, ?_⟩
    · rw [sizeLine_eq]; simp [strValues]; omega
    · intro C i v s₃ m₃ E' hv F₃ hm₃ htk₃
      exact wpAny_pure ⟨rfl, _, _, rfl, fun _ _ h => h⟩
    · intro C i v s₃ m₃ E' hv _ F₃ hm₃ htk₃
      obtain ⟨⟨b, tb⟩, hb, rfl⟩ := strValues_get hv
      have X6 := X'.keeps F6.keep
      have T6 := T'.keeps F6.keep
      refine MethodCall_ (comp_global F₃ X6 T6 (by k_is) ?_ rfl (by with_unfolding_all rfl)) (by with_unfolding_all rfl)
      have hop := op_map (prog := PySem.Challenge.rw_xo0027_01.row.prog) (X6.keeps F₃.keep)
      refine getMethod_builtin hop.typeIs PySem.F.plainAttrs_dict PySem.F.slot_dict_get PySem.F.type_dict_get hop.noDict ?_
      refine callWith_method1 (spliced_more ?_)
      refine MethodCall_ (comp_local F₃ hm₃ ?_ rfl) (by with_unfolding_all rfl)
      refine GM.replace (callWith_method1 (spliced_more (Calls.Constant_str (spliced_more (Calls.Constant_str (spliced_none ?_))))))
      refine SC.replaceW (Nat.ne_of_gt (Nat.le_trans htk6 htk₃)) (Nat.succ_ne_zero _) (Nat.ne_of_lt (Nat.lt_succ_self _)) (by decide +kernel) (hLf _ (List.mem_of_getElem? hb)) (by decide +kernel) fun t7 k7 => ?_
      rw [show Str.ofString "\t" = ⟨#[9]⟩ from by decide +kernel, replace_rep]
      refine spliced_more (wpAny_Constant_int (spliced_none ?_))
      refine op_get F₃ X6 (fun tk8 => ?_)
      refine ⟨⟨b, tb, tk8, rfl, ?_⟩, ⟨_, _, rfl, fun _ _ h => h⟩⟩
      rfl
    · rintro D h7 tk7 ys kN F7 N7 hD hP
      rw [List.filter_eq_self.mpr (fun _ _ => rfl)] at hP
      have hI := paired_ints hP
      lge_go0
      rename Fr _ _ _ _ => F8
      rename News _ _ _ _ => N8
      rename Heap => h8
      refine exec_cut F8 (fun m nx => ∃ (u : Str → Option Value) (th : Tok), m = mp [("hour", .int (pageHour x.cps.toList) th)] u) ?_ ?_
      · refine For_invTF F8 ?_ (fun _ => by with_unfolding_all rfl) PassesOwn.never
        lge_go0
        have hil := IntsAre.length hI
        rw [List.length_map] at hil
        have hlB : bl.length ≤ 5 := by
          have := congrArg List.length hbl
          rw [List.length_map] at this
          omega
        refine sorted_N F8 N8 (N8.isList (.head _)) hI (by rw [hil]; omega) fun h' vs' ns' e F9 N9 hI' hp hs => ?_
        have hns := sorted_is hp hs
        dsimp only
        have hlayI : PyData.layable0 (.list ((bl.map fun q => ((bellN q.1.cps.toList : Nat) : Int)).map .int)) = true := lay_ints 54 (fun n hn => by
          obtain ⟨q, _, rfl⟩ := List.mem_map.mp hn
          exact opN_le _) (by rw [List.length_map]; omega)
        have hlen' := hI'.length
        generalize h8.objs.size + 1 = S at N9 ⊢
        refine iter_list (seqObj "list" vs'.toArray e) (HrJ ((bellsOf x.cps.toList).map bellRow) Bd D S (L' + 1) (listOf (strValues bl).toArray kB) (listOf ys kN) (seqObj "list" vs'.toArray e) ns') rfl rfl ⟨_, rfl⟩ F9 N9 (.inr ?_) ?_ ?_ ?_
        · rintro i m nx ⟨hz, kz, th, tk, u, o, vv, rfl, rfl, _⟩
          exact .head _
        · exact ⟨0, 0, _, _, _, _, _, mp_of ⟨rfl, rfl, rfl, rfl, trivial⟩, rfl, hdat6, rfl, rfl, by decide, by decide⟩
        · intro i v m₁ nx s₁ I oI hv hJ hoff F₃ N₃
          obtain ⟨hz, kz, th, tk, u, o, vv, rfl, rfl, hdat, hst, hki, hb1, hb2⟩ := hJ
          obtain ⟨n, tn, rfl, hn⟩ := ints_get hI' hv
          have hoff' : ∀ a ∈ [S, D, Bd, L' + 1], a ≠ I := fun a ha => by
            obtain ⟨q, hq, rfl⟩ := List.mem_map.mp (show a ∈ [(S, seqObj "list" vs'.toArray e), (D, listOf ys kN), (Bd, listOf (strValues bl).toArray kB), (L' + 1, o)].map (·.1) from ha)
            exact hoff q hq
          have hSI : @Ne Nat S I := hoff _ (.head _)
          have hDI : @Ne Nat D I := hoff _ (.tail _ (.head _))
          have hBI : @Ne Nat Bd I := hoff _ (.tail _ (.tail _ (.head _)))
          have hLI : @Ne Nat (L' + 1) I := hoff _ (.tail _ (.tail _ (.tail _ (.head _))))
          lge_go0
          refine stCNk (own := [(I, oI), (S, _), (D, _), (Bd, _)]) (rest := []) F₃ N₃ (by with_unfolding_all rfl) hdat ⟨.inl hLI.symm, .inr (fun _ e => nomatch e), .inr (fun _ e => nomatch e), .inr (fun _ e => nomatch e), trivial⟩ trivial (fun h4 o4 F4 N4 hd4 => ?_) rfl (by with_unfolding_all rfl)
          dsimp only [List.cons_append, List.nil_append] at N4 ⊢
          lge_go0
          refine index_list_ints (N4.isList (.tail _ (.tail _ (.head _)))) hI hlayI (hp.mem_iff.mp (List.mem_of_getElem? hn)) ?_
          lge_go0
          rename Fr _ _ _ _ => F5
          rename News _ _ _ _ => N5
          refine eval_comp (cl := [("number", L' + 1)]) F5 (ltV n) (fun v y => y = v) rfl (by with_unfolding_all rfl) (by decide) rfl (by decide) (by with_unfolding_all rfl) ?_ (fun _ => by with_unfolding_all rfl)
          lge_go0
          rename Fr _ _ _ _ => F6
          rename News _ _ _ _ => N6
          rename Heap => h6
          rename IntsAre _ _ => hIs
          rename List Value => ws
          rw [Int.toNat_natCast] at hIs
          generalize hat : (bl.map fun q => ((bellN q.1.cps.toList : Nat) : Int)).idxOf n = at' at *
          have hlt : ws.length ≤ 5 := by
            have h1 := hIs.length
            have h2 : ys.toList.length = bl.length := hil
            rw [List.length_take, List.length_map] at h1; omega
          refine ⟨_, ws, _, _, rfl, N6.isList (.head _), F6, N6, ?_, ?_, ?_, ?_⟩
          · rw [sizeLine_eq]; omega
          · intro C j v s₃ m₃ E' hv F₇ hm₃ htk₃
            have hv' : ∃ o' t', v = .int o' t' := by
              obtain ⟨o', t', e', _⟩ := ints_get hIs hv
              exact ⟨o', t', e'⟩
            obtain ⟨o', t', rfl⟩ := hv'
            refine wpAny_tests_one (wpAny_isTrue_Compare1 (comp_local F₇ hm₃ (comp_cell (c := L' + 1) (v := .int n tn) ?_ (lt_int (wpAny_truthy_bool ⟨rfl, _, _, rfl, fun _ _ h => h⟩)) (by with_unfolding_all rfl) rfl) rfl))
            have z := (N6 (L' + 1, o4) (by simp)).1
            exact ⟨_, F₇.keep _ _ z, hd4⟩
          · intro C j v s₃ m₃ E' hv hpv F₇ hm₃ htk₃
            exact comp_local F₇ hm₃ ⟨rfl, _, _, rfl, fun _ _ h => h⟩ rfl
          · rintro D2 h12 tk12 ys2 k2 F12 N12 hD2 hP2
            have hl2 := paired_len hP2
            rw [ints_filter_len n hIs] at hl2
            have hl3 : ys2.size ≤ 5 := by
              have h1 : ys2.toList.length = ys2.size := rfl
              have h2 := paired_len hP2
              have h3 := List.length_filter_le (ltV n) ws
              omega
            dsimp only
            refine spliced_none ?_
            refine len_list (N12.isList (.head _)) (by omega) ?_
            lge_open0
            rename Fr _ _ _ _ => F13
            rename News _ _ _ _ => N13
            have hatl : at' < bl.length := by
              have h1 := List.idxOf_lt_length_iff.mpr (hp.mem_iff.mp (List.mem_of_getElem? hn))
              rw [hat, List.length_map] at h1
              exact h1
            obtain ⟨⟨b, tb⟩, hb⟩ : ∃ q, bl[at']? = some q := ⟨_, List.getElem?_eq_getElem hatl⟩
            refine item_listL (l := strValues bl) (x := .str b tb) (N13.isList (by repeat (first | exact .head _ | refine .tail _ ?_))) (by omega) (by omega) (by rw [Int.toNat_natCast]; unfold strValues; rw [List.getElem?_map, hb]; rfl) ?_
            have hb6 := hLf _ (List.mem_of_getElem? hb)
            dsimp only at hb6
            have hi5 : i < 5 := by
              have h1 := (List.getElem?_eq_some_iff.mp hn).1
              have h2 := hp.length_eq
              rw [List.length_map] at h2
              omega
            have hp20 := pow20 hi5
            have hbd := hr_bound (ah := ys2.size) hi5 hki hl3 hb1 hb2
            have hz1 : hz ≤ 160000 := by omega
            have hz2 : -160000 ≤ hz := by omega
            have hfold := hr_step hbl hst hn hat hb (ah := ys2.size) hl2
            lge_go0
            · rename (_ == Str.ofString "\t") = true => htab
              rename Fr _ _ _ _ => F14
              rename News _ _ _ _ => N14
              rw [first_tab] at htab
              rw [htab, if_pos rfl] at hfold
              exact Trn.intro [(S, _), (D, _), (Bd, _), (L' + 1, _)] F14 N14 (fun p hp => .tail _ (.tail _ (.tail _ hp))) (.tail _ (.tail _ (.head _))) (fun p hp => hoff' p.1 (List.mem_map_of_mem (f := Prod.fst) hp))
                ⟨_, _, _, _, _, _, _, mp_of ⟨rfl, rfl, rfl, rfl, trivial⟩, rfl, hd4, hfold, by omega, hbd.1, hbd.2.1⟩
            · rename (_ == Str.ofString "\t") = false => htab
              rename Fr _ _ _ _ => F14
              rename News _ _ _ _ => N14
              rw [first_tab] at htab
              rw [htab, if_neg Bool.false_ne_true] at hfold
              exact Trn.intro [(S, _), (D, _), (Bd, _), (L' + 1, _)] F14 N14 (fun p hp => .tail _ (.tail _ (.tail _ hp))) (.tail _ (.tail _ (.head _))) (fun p hp => hoff' p.1 (List.mem_map_of_mem (f := Prod.fst) hp))
                ⟨_, _, _, _, _, _, _, mp_of ⟨rfl, rfl, rfl, rfl, trivial⟩, rfl, hd4, hfold, by omega, hbd.2.2.1, hbd.2.2.2⟩
        · rintro m₁ nx h tk ⟨hz, kz, th, tk, u, o, vv, rfl, rfl, hdat, hst, hki, hb1, hb2⟩ F9 N9
          rw [hlen', List.take_length, hns] at hst
          rw [← bell_nos hbl] at hst
          refine Nxt.intro F9 (fun p hp => N9 p hp) ⟨_, th, mp_of ⟨?_, trivial⟩⟩
          show some (Value.int hz th) = some (Value.int (((isort (((bellsOf x.cps.toList).map bellRow).map (·.2))).foldl (hStep _) (0, 0)).1) th)
          rw [hst]
      · rintro h9 tk9 m9 nx9 F9 N9 ⟨u, th, rfl⟩
        try dsimp only
        lge_go0
        exact ⟨_, [], F9, .nil, ⟨⟨th, rfl⟩, rfl⟩, h9, tk9, rfl⟩
end Mine
end
theorem Mine.top_off_W1 : True := by
  w_top off
  trivial
section
local macro_rules | `(tactic| walk_at "no word 3 0") => `(tactic| skip)
namespace Mine
local macro_rules | `(tactic| walk_at "execs cons Assign cons") => `(tactic| ((with_reducible show wpAny _ _ (execs (Stmt.Assign _ (Expr.List [] _) _ :: Stmt.For _ _ _ _ _ :: _) _) _ _ _); (with_reducible refine wpAny_execs_cons ?_); try dsimp only))
local macro_rules | `(tactic| walk_at "call type:range") => `(tactic| ((with_reducible show wpAny _ _ (call (Value.type _) [Value.int _ _]) _ _ _); (rename Fr _ _ _ _ => F'); (rename News _ _ _ _ => N'); (with_unfolding_all refine range1_rows F' N' ?_); intro _ _ _ _ _ _ _ _ _))
noncomputable def signsL : List (List Nat) := (Txt.words (Str.ofString "( ) [ ] : , ; + - * / | & < > = . % { } == != <= >= ~ ^ << >> ** += -= *= /= %= &= |= ^= <<= >>= **= // //= @ @= -> ... := !")).map (·.cps.toList)
noncomputable def sg (j : Nat) : List Nat := signsL.getD j []
theorem signs_len : signsL.length = 48 := by decide +kernel
theorem sg_op : (List.range 48).all (fun j => opN (sg j) == some (7 + j)) = true := by decide +kernel
noncomputable def NmJ (SG NM : Addr) (b : Int) (tb : Tok) (a : Int) (rest : List (Addr × Obj)) (i : Nat) (m : Str → Option Value) (nx : List (Addr × Obj)) : Prop :=
  ∃ (wv st : Int) (tw ts : Tok) (idx : List Nat) (nms : List (Str × Tok)) (kk : Nat) (u : Str → Option Value) (ta : Tok),
    m = mp [("signs", .ref SG), ("where", .int wv tw), ("steps", .int st ts), ("names", .ref NM), ("first", .int a ta), ("hour", .int b tb)] u ∧
    nx = (NM, listOf (strValues nms).toArray kk) :: rest ∧ 0 ≤ st ∧ st ≤ 70000000 ∧ nms.map (·.1.cps.toList) = idx.map sg ∧ idx.length = i ∧ idx.Pairwise (· < ·) ∧ (∀ j ∈ idx, (j : Int) ≤ wv) ∧ -1 ≤ wv ∧ wv ≤ 2 + 9 * (i : Int)
theorem ex_news2 {h₀ h : Heap} {L x y : Addr} {ox oy : PySem.Obj} {r : List (Addr × PySem.Obj)} (_N : News h₀ L h ((x, ox) :: (y, oy) :: r)) : ∃ B : Addr, y = B := ⟨y, rfl⟩
theorem drb {a b c M : Int} {j : Nat} (ha0 : 0 ≤ a) (ha1 : a ≤ M) (hb0 : 0 ≤ b) (hb1 : b ≤ M) (hc0 : 0 ≤ c) (hc1 : c ≤ M) : 0 ≤ [a, b, c].getD j 0 ∧ [a, b, c].getD j 0 ≤ M := by
  rcases j with _ | _ | _ | j <;> simp [List.getD] <;> omega
noncomputable def DrJ (l D : Addr) (i : Nat) (m : Str → Option Value) (nx : List (Addr × Obj)) : Prop :=
  ∃ (a b c : Int) (ta tb tc : Tok) (k : Nat) (u : Str → Option Value), m = mp [("script", .ref l), ("numbers", .ref D)] u ∧ nx = [(D, listOf #[.int a ta, .int b tb, .int c tc] k)] ∧
    0 ≤ a ∧ a ≤ 6000 + (i : Int) * 1000000 ∧ 0 ≤ b ∧ b ≤ 6000 + (i : Int) * 1000000 ∧ 0 ≤ c ∧ c ≤ 6000 + (i : Int) * 1000000
set_option maxRecDepth 100000 in
set_option maxHeartbeats 8000000 in
theorem draw_spec (w : World) (l : Addr) (vs : List Value) (ns : List Int) (s : Shared) (hl : s.heap.IsList l vs.toArray) (hI : IntsAre vs ns) (hlay : PyData.layable0 (.list (ns.map .int)) = true) (hlen : ns.length ≤ 63) : Spec w 136 [.ref l] [] s (fun v nl =>
    ∃ (T NM : Addr) (nms : List (Str × Tok)) (kk : Nat) (b : Int) (tb : Tok) (wd : Bool), v = .ref T ∧ nl = [(T, { cls := .type "tuple", data := .seq #[.ref NM, .int b tb, .bool wd] }), (NM, listOf (strValues nms).toArray kk)] ∧ 0 ≤ b ∧ b ≤ 70000000 ∧
      ∃ idx : List Nat, nms.map (·.1.cps.toList) = idx.map sg ∧ idx.Pairwise (· < ·) ∧ (∀ j ∈ idx, j < 48) ∧ 3 ≤ idx.length ∧ idx.length ≤ 5) := by
  unfold Spec SpecA
  k_fill
  intro e p loose mean mg mb env outer A₀ base h₀ L m Q E B F X N T hA hf hke hret
  (refine' fn_enter [] _ B F X N T hA hf hke hret ?k6 ?k7 ?k8 ?k9 ?kB ?_ ?c2 ?c3 ?c4 ?c5; (case k6 => k_is); (case k7 => k_is); (case k8 => k_room); (case k9 => exact BindsTo.of_eq rfl); (case c5 => decide); (case kB => exact locs rfl); (case c2 => exact rfl); (case c3 => exact rfl); (case c4 => exact rfl))
  clear hret F B X N T
  intro g L' h₁ hg F' N' B' X' T' hlt
  have hl' : g.IsList l vs.toArray := by
    obtain ⟨o, ho, h⟩ := hl
    exact ⟨o, hg _ _ List.not_mem_nil ho, h⟩
  (try dsimp only)
  try k_fold
  lge_go0
  rename Fr _ _ _ _ => F1
  rename News _ _ _ _ => N1
  obtain ⟨D, hD⟩ := ex_addr F1
  rw [hD] at F1 N1
  clear hD
  refine exec_cut F1 (DrJ l D (min ns.length 60)) ?_ ?_
  · refine For_invVF F1 (by with_unfolding_all rfl) (by with_unfolding_all rfl) ?_ (fun _ => by with_unfolding_all rfl) PassesOwn.never
    lge_go0
    rename IsRange _ _ _ _ _ _ _ _ => hr
    have e60 : (if (60 : Int) < (ns.length : Int) then (60 : Int) else (ns.length : Int)) = ((min ns.length 60 : Nat) : Int) := by split <;> omega
    rw [e60] at hr
    rename Fr _ _ _ _ => F2
    rename News _ _ _ _ => N2
    have hvl : vs.length = ns.length := hI.length
    refine iter_range (n := min ns.length 60) (DrJ l D) rfl hr (small_one (by omega) (by omega) (by omega) (by omega)) (by rw [rangeSize_one]; split <;> omega) F2 N2 ?_ ?_ ?_
    · exact ⟨_, _, _, _, _, _, _, _, mp_of ⟨by with_unfolding_all rfl, by with_unfolding_all rfl, trivial⟩, rfl, by decide, by omega, by decide, by omega, by decide, by omega⟩
    · rintro i t m₁ nx h tk I oI hi ⟨a, b, c, ta, tb, tc, k, u, rfl, rfl, ha0, ha1, hb0, hb1, hc0, hc1⟩ hoff F₃ N₃
      have hDI : @Ne Nat D I := hoff _ (.head _)
      have hii : (i : Nat) < ns.length := by omega
      dsimp only
      lge_go0
      rename Fr _ _ _ _ => F9
      rename News _ _ _ _ => N9
      have hM := drb (j := ((0 + (i : Int) * 1).fmod 3).toNat) ha0 ha1 hb0 hb1 hc0 hc1
      have hf0 := Int.fmod_nonneg_of_pos (ns.getD (0 + (i : Int) * 1).toNat 0) (show (0 : Int) < 1000000 by decide)
      have hf1 := Int.fmod_lt_of_pos (ns.getD (0 + (i : Int) * 1).toNat 0) (show (0 : Int) < 1000000 by decide)
      refine Trn.intro [(D, _)] F9 N9 (fun p hp => .tail _ hp) (.head _) (off1 hDI) ⟨_, _, _, _, _, _, _, _, mp_of ⟨rfl, rfl, trivial⟩, rfl, ?_⟩
      rw [show ((i + 1 : Nat) : Int) = (i : Int) + 1 from by omega]
      generalize [a, b, c].getD ((0 + (i : Int) * 1).fmod 3).toNat 0 = v at *
      generalize (ns.getD (0 + (i : Int) * 1).toNat 0).fmod 1000000 = f at *
      refine ⟨?_, ?_, ?_, ?_, ?_, ?_⟩ <;> split <;> omega
    · rintro m₁ nx h tk hJ F4 N4
      exact Nxt.intro F4 N4 hJ
  · rintro h5 tk5 m5 nx5 F5 N5 ⟨a, b, c, ta, tb, tc, k, u, rfl, rfl, ha0, ha1, hb0, hb1, hc0, hc1⟩
    try dsimp only
    lge_go0
    rename Fr _ _ _ _ => F6
    rename News _ _ _ _ => N6
    rename List.map _ _ = Txt.words _ => hw
    rename List (Str × Tok) => sgl
    have hsg : sgl.map (·.1.cps.toList) = signsL := by
      have := congrArg (List.map (·.cps.toList)) hw
      rw [List.map_map] at this
      exact this
    clear hw
    obtain ⟨NM, hNM⟩ := ex_addr F6
    replace hNM := hNM.symm
    subst hNM
    obtain ⟨SG, hSG⟩ := ex_news2 N6
    replace hSG := hSG.symm
    subst hSG
    have h1 : @Ne Nat SG NM := by omega
    have h2 : @Ne Nat D NM := by omega
    clear hl hI hlay
    refine exec_cut F6 (NmJ SG NM b tb a [(SG, listOf (strValues sgl).toArray 0), (D, listOf #[.int a ta, .int b tb, .int c tc] k)] (3 + (a.fmod 3).toNat)) ?_ ?_
    · refine For_invVF F6 (by with_unfolding_all rfl) (by with_unfolding_all rfl) ?_ (fun _ => by with_unfolding_all rfl) PassesOwn.never
      lge_go0
      rename IsRange _ _ _ _ _ _ _ _ => hr
      rename Fr _ _ _ _ => F7
      rename News _ _ _ _ => N7
      have hm3 := Int.fmod_nonneg_of_pos a (show (0 : Int) < 3 by decide)
      have hm4 := Int.fmod_lt_of_pos a (show (0 : Int) < 3 by decide)
      refine iter_range (n := 3 + (a.fmod 3).toNat) (NmJ SG NM b tb a [(SG, listOf (strValues sgl).toArray 0), (D, listOf #[.int a ta, .int b tb, .int c tc] k)]) rfl hr (small_one (by omega) (by omega) (by omega) (by omega)) (by rw [rangeSize_one]; split <;> omega) F7 N7 ?_ ?_ ?_
      · refine ⟨(a.fdiv 3).fmod 4 - 1, c, _, _, [], [], 0, _, _, mp_of ⟨by with_unfolding_all rfl, by with_unfolding_all rfl, by with_unfolding_all rfl, by with_unfolding_all rfl, by with_unfolding_all rfl, by with_unfolding_all rfl, trivial⟩, rfl, hc0, by omega, rfl, rfl, .nil, (fun _ h => nomatch h), ?_, ?_⟩
        · have := Int.fmod_nonneg_of_pos (a.fdiv 3) (show (0 : Int) < 4 by decide)
          omega
        · have := Int.fmod_lt_of_pos (a.fdiv 3) (show (0 : Int) < 4 by decide)
          omega
      · rintro i t m₁ nx h tk I oI hi ⟨wv, st, tw, ts, idx, nms, kk, u, ta', rfl, rfl, hs0, hs1, hnm, hil, hip, him, hw0, hw1⟩ hoff F₃ N₃
        dsimp only
        lge_open0
        rename News _ _ _ _ => N9
        have hf0 := Int.fmod_nonneg_of_pos st (show (0 : Int) < 9 by decide)
        have hf1 := Int.fmod_lt_of_pos st (show (0 : Int) < 9 by decide)
        have hsl : sgl.length = 48 := by
          have := congrArg List.length hsg
          rwa [List.length_map, signs_len] at this
        have hlt2 : (wv + 1 + st.fmod 9).toNat < sgl.length := by omega
        obtain ⟨⟨y, ty⟩, hy⟩ : ∃ q, sgl[(wv + 1 + st.fmod 9).toNat]? = some q := ⟨_, List.getElem?_eq_getElem hlt2⟩
        have hysg : y.cps.toList = sg (wv + 1 + st.fmod 9).toNat := by
          unfold sg
          rw [← hsg, List.getD_eq_getElem?_getD, List.getElem?_map, hy]
          rfl
        refine item_listL (l := strValues sgl) (x := .str y ty) (N9.isList (by repeat (first | exact .head _ | refine .tail _ ?_))) (by omega) (by omega) (by unfold strValues; rw [List.getElem?_map, hy]; rfl) ?_
        lge_go0
        rename Fr _ _ _ _ => F9
        rename News _ _ _ _ => N9
        have h3 : @Ne Nat I NM := fun e => hoff _ (.head _) e.symm
        have hNl : nms.length = i := by
          have := congrArg List.length hnm
          rw [List.length_map, List.length_map, hil] at this
          exact this
        refine append_K F9 N9 (.tail h3 (.head (fun p hp => by rcases List.mem_cons.mp hp with rfl | hp; exact h1; rw [List.mem_singleton.mp hp]; exact h2))) (fun h10 F10 N10 => ?_) (by simp [strValues]; rw [sizeLine_eq]; omega)
        dsimp only
        lge_go0
        have hSI : @Ne Nat SG I := hoff _ (.tail _ (.head _))
        have hDI : @Ne Nat D I := hoff _ (.tail _ (.tail _ (.head _)))
        refine Trn.intro ((NM, listOf (strValues (nms ++ [(y, ty)])).toArray (kk + 1)) :: [(SG, listOf (strValues sgl).toArray 0), (D, listOf #[.int a ta, .int b tb, .int c tc] k)]) F10 (fun p hp => N10 p ?_) (fun p hp => .tail _ hp) (.head _) ?_ ⟨wv + 1 + st.fmod 9, st.fdiv 9, _, _, idx ++ [(wv + 1 + st.fmod 9).toNat], nms ++ [(y, ty)], kk + 1, _, _, mp_of ⟨rfl, rfl, rfl, rfl, rfl, rfl, trivial⟩, rfl, ?_, ?_, ?_, ?_, ?_, ?_, by omega, by omega⟩
        · simpa [strValues] using hp
        · intro p hp
          rcases List.mem_cons.mp hp with rfl | hp
          · exact h3.symm
          · rcases List.mem_cons.mp hp with rfl | hp
            · exact hSI
            · rw [List.mem_singleton.mp hp]; exact hDI
        · rw [Int.fdiv_eq_ediv_of_nonneg _ (by decide)]; omega
        · rw [Int.fdiv_eq_ediv_of_nonneg _ (by decide)]; omega
        · simp [hnm, hysg]
        · simp [hil]
        · refine List.pairwise_append.mpr ⟨hip, List.pairwise_singleton .., fun j hj j' hj' => ?_⟩
          rw [List.mem_singleton.mp hj']
          have := him j hj
          omega
        · intro j hj
          rcases List.mem_append.mp hj with hj | hj
          · have := him j hj
            omega
          · rw [List.mem_singleton.mp hj]; omega
      · rintro m₁ nx h tk hJ F8 N8
        exact Nxt.intro F8 N8 hJ
    · rintro h11 tk11 m11 nx11 F11 N11 ⟨wv, st, tw, ts, idx, nms, kk, u, ta', rfl, rfl, hs0, hs1, hnm, hil, hip, him, hw0, hw1⟩
      dsimp only
      lge_go0
      rename Fr _ _ _ _ => F12
      have hm3 := Int.fmod_nonneg_of_pos a (show (0 : Int) < 3 by decide)
      have hm4 := Int.fmod_lt_of_pos a (show (0 : Int) < 3 by decide)
      rename News _ _ _ _ => N12
      refine ⟨_, [(_, { cls := .type "tuple", data := .seq #[.ref NM, .int b tb, .bool ((a.fdiv 12).fmod 2 == 1)] }), (NM, listOf (strValues nms).toArray kk)], F12, (fun p hp => N12 p ?_), ⟨_, NM, nms, kk, b, tb, _, rfl, rfl, hb0, by omega, idx, hnm, hip, ?_, by omega, by omega⟩, _, _, rfl⟩
      · rcases List.mem_cons.mp hp with rfl | hp
        · exact .head _
        · rw [List.mem_singleton.mp hp]; exact .tail _ (.head _)
      · intro j hj
        have := him j hj
        omega
end Mine
end
theorem Mine.top_off_R0 : True := by
  w_top off
  trivial
set_option maxRecDepth 100000
namespace Mine
theorem ex_news1 {h₀ h : Heap} {L x : Addr} {ox : PySem.Obj} {r : List (Addr × PySem.Obj)} (_N : News h₀ L h ((x, ox) :: r)) : ∃ B : Addr, B = x := ⟨x, rfl⟩
noncomputable def tupO (x y : Value) : PySem.Obj := { cls := .type "tuple", data := .seq #[x, y] }
theorem list_ne_tup {its : Array Value} {n : Nat} : (listOf its n).cls ≠ .type "tuple" := fun e => by
  have e : Value.type "list" = .type "tuple" := e
  injection e with e
  exact absurd e (by decide)
noncomputable def TupAll (tl : List (Addr × PySem.Obj)) : Prop := ∀ p ∈ tl, ∃ x y, p.2 = tupO x y
theorem tup_off {h₀ h : Heap} {L D : Addr} {o : PySem.Obj} {news tl : List (Addr × PySem.Obj)} (N : News h₀ L h news) (hD : (D, o) ∈ news) (hc : o.cls ≠ .type "tuple") (hs : ∀ p ∈ tl, p ∈ news) (ht : TupAll tl) : ∀ p ∈ tl, p.1 ≠ D := fun p hp e => by
  obtain ⟨x, y, e2⟩ := ht p hp
  have h1 := (N p (hs p hp)).1
  have h2 := (N _ hD).1
  rw [e] at h1
  dsimp only at h2
  rw [h2] at h1
  have h3 := Option.some.inj h1
  rw [e2] at h3
  exact hc (by rw [h3]; rfl)
theorem two_off {h₀ h : Heap} {L D I : Addr} {o oI : PySem.Obj} {news : List (Addr × PySem.Obj)} (N : News h₀ L h news) (hD : (D, o) ∈ news) (hI : (I, oI) ∈ news) (hc : o.cls ≠ oI.cls) : D ≠ I := fun e => by
  have h1 := (N _ hD).1
  have h2 := (N _ hI).1
  dsimp only at h1 h2
  rw [e, h2] at h1
  exact hc (by rw [Option.some.inj h1])
noncomputable def TwoAll {α : Type} (tl : List (Addr × PySem.Obj)) (f : α → Value → Value → Prop) : List Value → List α → Prop
  | [], [] => True
  | v :: vs, a :: as => (∃ T x y, v = .ref T ∧ (T, tupO x y) ∈ tl ∧ f a x y) ∧ TwoAll tl f vs as
  | _, _ => False
section
variable {α : Type} {tl tl' : List (Addr × PySem.Obj)} {f : α → Value → Value → Prop}
theorem TwoAll.mono (hs : ∀ p ∈ tl, p ∈ tl') : ∀ {vs : List Value} {as : List α}, TwoAll tl f vs as → TwoAll tl' f vs as
  | [], [], _ => trivial
  | _ :: _, _ :: _, ⟨⟨T, x, y, e, hm, h⟩, r⟩ => ⟨⟨T, x, y, e, hs _ hm, h⟩, TwoAll.mono hs r⟩
  | [], _ :: _, h => h.elim
  | _ :: _, [], h => h.elim
theorem TwoAll.len : ∀ {vs : List Value} {as : List α}, TwoAll tl f vs as → vs.length = as.length
  | [], [], _ => rfl
  | _ :: _, _ :: _, ⟨_, r⟩ => by rw [List.length_cons, List.length_cons, TwoAll.len r]
  | [], _ :: _, h => h.elim
  | _ :: _, [], h => h.elim
theorem TwoAll.app : ∀ {vs ws : List Value} {as bs : List α}, TwoAll tl f vs as → TwoAll tl f ws bs → TwoAll tl f (vs ++ ws) (as ++ bs)
  | [], _, [], _, _, k => k
  | _ :: _, _, _ :: _, _, ⟨h, r⟩, k => ⟨h, TwoAll.app r k⟩
  | [], _, _ :: _, _, h, _ => h.elim
  | _ :: _, _, [], _, h, _ => h.elim
theorem TwoAll.take : ∀ {vs : List Value} {as : List α} (n : Nat), TwoAll tl f vs as → TwoAll tl f (vs.take n) (as.take n)
  | _, _, 0, _ => trivial
  | [], [], _ + 1, _ => trivial
  | _ :: _, _ :: _, n + 1, ⟨h, r⟩ => ⟨h, TwoAll.take n r⟩
  | [], _ :: _, _ + 1, h => h.elim
  | _ :: _, [], _ + 1, h => h.elim
theorem TwoAll.drop : ∀ {vs : List Value} {as : List α} (n : Nat), TwoAll tl f vs as → TwoAll tl f (vs.drop n) (as.drop n)
  | _, _, 0, h => h
  | [], [], _ + 1, _ => trivial
  | _ :: _, _ :: _, n + 1, ⟨_, r⟩ => TwoAll.drop n r
  | [], _ :: _, _ + 1, h => h.elim
  | _ :: _, [], _ + 1, h => h.elim
theorem TwoAll.one {T : Addr} {x y : Value} {a : α} (hm : (T, tupO x y) ∈ tl) (h : f a x y) : TwoAll tl f [.ref T] [a] := ⟨⟨T, x, y, rfl, hm, h⟩, trivial⟩
theorem TwoAll.get : ∀ {vs : List Value} {as : List α} {i : Nat} {v : Value}, TwoAll tl f vs as → vs[i]? = some v → ∃ a T x y, as[i]? = some a ∧ v = .ref T ∧ (T, tupO x y) ∈ tl ∧ f a x y
  | [], _, _, _, _, h => by simp at h
  | _ :: _, [], _, _, h, _ => h.elim
  | _ :: _, a :: _, 0, _, ⟨⟨T, x, y, e, hm, h⟩, _⟩, hv => by
    rw [List.getElem?_cons_zero] at hv
    exact ⟨a, T, x, y, rfl, (Option.some.inj hv) ▸ e, hm, h⟩
  | _ :: _, _ :: _, i + 1, _, ⟨_, r⟩, hv => by
    rw [List.getElem?_cons_succ] at hv
    rw [List.getElem?_cons_succ]
    exact TwoAll.get r hv
theorem TwoAll.snoc : ∀ {vs : List Value} {as : List α} {a : α}, TwoAll tl f vs (as ++ [a]) → ∃ ws T x y, vs = ws ++ [.ref T] ∧ TwoAll tl f ws as ∧ (T, tupO x y) ∈ tl ∧ f a x y
  | [], [], _, h => h.elim
  | [], _ :: _, _, h => h.elim
  | v :: vs, [], a, h => by
    obtain ⟨⟨T, x, y, rfl, hm, hf⟩, r⟩ := h
    cases vs with
    | nil => exact ⟨[], T, x, y, rfl, trivial, hm, hf⟩
    | cons => exact r.elim
  | v :: vs, b :: as, a, h => by
    obtain ⟨h1, r⟩ := h
    obtain ⟨ws, T, x, y, rfl, hr, hm, hf⟩ := TwoAll.snoc r
    exact ⟨v :: ws, T, x, y, rfl, ⟨h1, hr⟩, hm, hf⟩
noncomputable def insZ {β : Type} (l : List β) (x : Int) (y : β) : List β :=
  l.take (if x < 0 then (x + (l.length : Int)).toNat else min x.toNat l.length) ++ y :: l.drop (if x < 0 then (x + (l.length : Int)).toNat else min x.toNat l.length)
theorem TwoAll.ins {vs : List Value} {as : List α} {T : Addr} {x y : Value} {a : α} {k : Int} (h : TwoAll tl f vs as) (hm : (T, tupO x y) ∈ tl) (hf : f a x y) : TwoAll tl f (kl_ins vs k (.ref T)) (insZ as k a) := by
  unfold kl_ins insZ
  rw [h.len]
  exact TwoAll.app (TwoAll.take _ h) ⟨⟨T, x, y, rfl, hm, hf⟩, TwoAll.drop _ h⟩
end
theorem kl_last_snoc : ∀ (p : List Value) (y : Value), kl_last (p ++ [y]) = some (p, y)
  | [], _ => rfl
  | x :: r, y => by
    show kl_last (x :: (r ++ [y])) = _
    unfold kl_last
    rw [kl_last_snoc r y]
theorem insZ_length {β : Type} (l : List β) (x : Int) (y : β) : (insZ l x y).length = l.length + 1 := by
  unfold insZ
  rw [List.length_append, List.length_cons, List.length_take, List.length_drop]
  omega
noncomputable def figs (h : Int) : Nat → List (Int × Int)
  | 0 => []
  | k + 1 => figs (h.fdiv ((k : Int) + 1)) k ++ [(h.fmod ((k : Int) + 1), (h.fdiv ((k : Int) + 1)).fmod 2)]
theorem figs_length : ∀ (k : Nat) (h : Int), (figs h k).length = k
  | 0, _ => rfl
  | k + 1, h => by rw [figs, List.length_append, figs_length k]; rfl
noncomputable def rowStep (r : List (Bool × Nat)) (f : Int × Int) : List (Bool × Nat) :=
  if f.2 = 1 then insZ r f.1 (true, r.length) else insZ r ((r.length : Int) - f.1) (false, r.length)
noncomputable def rowZ (h : Int) (n : Nat) : List (Bool × Nat) := (figs h n).foldl rowStep []
theorem rowStep_t (r : List (Bool × Nat)) {f1 f2 : Int} (h : f2 = 1) : rowStep r (f1, f2) = insZ r f1 (true, r.length) := if_pos h
theorem rowStep_f (r : List (Bool × Nat)) {f1 f2 : Int} (h : ¬ f2 = 1) : rowStep r (f1, f2) = insZ r ((r.length : Int) - f1) (false, r.length) := if_neg h
theorem rowStep_length (r : List (Bool × Nat)) (f : Int × Int) : (rowStep r f).length = r.length + 1 := by
  unfold rowStep
  split <;> exact insZ_length ..
theorem rows_length : ∀ (fs : List (Int × Int)) (r : List (Bool × Nat)), (fs.foldl rowStep r).length = r.length + fs.length
  | [], r => rfl
  | f :: fs, r => by rw [List.foldl_cons, rows_length fs, rowStep_length, List.length_cons]; omega
noncomputable def figF (f : Int × Int) (x y : Value) : Prop := (∃ t, x = .int f.1 t) ∧ ∃ t, y = .int f.2 t
noncomputable def look (b : Bool) : Str := if b then Str.ofString "\t" else Str.ofString " "
noncomputable def rowF (nms : List (Str × Tok)) (q : Bool × Nat) (x y : Value) : Prop := (∃ t, x = .str (look q.1) t) ∧ ∃ nm t t', nms[q.2]? = some (nm, t') ∧ y = .str nm t
theorem figs_turn {ds : List (Int × Int)} {hc hour : Int} {n i sz : Nat} (hsz : n - i = sz + 1) (h : ds ++ (figs hc (n - i)).reverse = (figs hour n).reverse) :
    ds ++ [(hc.fmod ((sz : Int) + 1), (hc.fdiv ((sz : Int) + 1)).fmod 2)] ++ (figs (hc.fdiv ((sz : Int) + 1)) (n - (i + 1))).reverse = (figs hour n).reverse := by
  rw [← h, hsz, show n - (i + 1) = sz by omega, figs]
  simp
theorem fdiv_room {hc : Int} {sz : Nat} (h0 : 0 ≤ hc) (h1 : hc ≤ 70000000) : 0 ≤ hc.fdiv ((sz : Int) + 1) ∧ hc.fdiv ((sz : Int) + 1) ≤ 70000000 := by
  rw [Int.fdiv_eq_ediv_of_nonneg _ (by omega)]
  refine ⟨Int.ediv_nonneg h0 (by omega), Int.le_trans (Int.ediv_le_self _ h0) h1⟩
theorem figs_room : ∀ (k : Nat) (h : Int), ∀ q ∈ figs h k, 0 ≤ q.1 ∧ q.1 ≤ (k : Int)
  | 0, _, _, hq => nomatch hq
  | k + 1, h, q, hq => by
    rw [figs] at hq
    rcases List.mem_append.mp hq with hq | hq
    · have := figs_room k _ q hq
      omega
    · rw [List.mem_singleton.mp hq]
      have h0 := Int.fmod_nonneg_of_pos h (show (0 : Int) < (k : Int) + 1 by omega)
      have h1 := Int.fmod_lt_of_pos h (show (0 : Int) < (k : Int) + 1 by omega)
      dsimp only
      omega
theorem fits_small {x : Int} (h0 : -100 ≤ x) (h1 : x ≤ 100) : Builtin.List.listFitsIndex x = true := by
  unfold Builtin.List.listFitsIndex
  simp
  omega
noncomputable def FgJ (A FG : Addr) (hour : Int) (n : Nat) (i : Nat) (m : Str → Option Value) (nx : List (Addr × PySem.Obj)) : Prop :=
  ∃ (hc : Int) (th : Tok) (fv : List Value) (ds : List (Int × Int)) (kk : Nat) (tl : List (Addr × PySem.Obj)) (u : Str → Option Value),
    m = mp [("hour", .int hc th), ("names", .ref A), ("figures", .ref FG)] u ∧ nx = (FG, listOf fv.toArray kk) :: tl ∧ TupAll tl ∧ TwoAll tl figF fv ds ∧ ds ++ (figs hc (n - i)).reverse = (figs hour n).reverse ∧ 0 ≤ hc ∧ hc ≤ 70000000 ∧ ds.length = i
noncomputable def RwJ (R FG : Addr) (nms : List (Str × Tok)) (hour : Int) (n : Nat) (i : Nat) (m : Str → Option Value) (nx : List (Addr × PySem.Obj)) : Prop :=
  ∃ (fv rv : List Value) (kk kr : Nat) (tl : List (Addr × PySem.Obj)) (u : Str → Option Value),
    m = mp [("figures", .ref FG), ("row", .ref R)] u ∧ nx = (R, listOf rv.toArray kr) :: (FG, listOf fv.toArray kk) :: tl ∧ R ≠ FG ∧ TupAll tl ∧ TwoAll tl figF fv ((figs hour n).drop i).reverse ∧
      TwoAll tl (rowF nms) rv (((figs hour n).take i).foldl rowStep [])
theorem row_turn {g h' : Heap} {L' I R FG T2 : Addr} {oI : PySem.Obj} {x y : Value} {rv ws : List Value} {kr kk tk : Nat} {tl : List (Addr × PySem.Obj)} {nms : List (Str × Tok)} {hour : Int} {n i : Nat} {m' : Str → Option Value} {s : Shared}
    (F : Fr g L' h' m') (hm : MpOk m' [("figures", .ref FG), ("row", .ref R)]) (N : News g L' h' ((T2, tupO x y) :: (I, oI) :: (R, listOf rv.toArray kr) :: (FG, listOf ws.toArray kk) :: tl)) (hta : TupAll tl)
    (hTI : @Ne Nat T2 I) (hRI : @Ne Nat R I) (hFI : @Ne Nat FG I) (hRF : @Ne Nat R FG) (hoff : ∀ p ∈ tl, p.1 ≠ I) (htf : TwoAll tl figF ws ((figs hour n).drop (i + 1)).reverse)
    (htr : TwoAll ((T2, tupO x y) :: tl) (rowF nms) rv (((figs hour n).take (i + 1)).foldl rowStep [])) :
    Trn g L' I oI (RwJ R FG nms hour n (i + 1)) s .next { s with heap := h', toks := tk } := by
  refine Trn.intro ((R, listOf rv.toArray kr) :: (FG, listOf ws.toArray kk) :: (T2, tupO x y) :: tl) F N ?_ (.tail _ (.head _)) ?_ ⟨ws, rv, kk, kr, (T2, tupO x y) :: tl, _, mp_of hm, rfl, hRF, ?_, htf.mono fun p hp => .tail _ hp, htr⟩
  · intro p hp
    rcases List.mem_cons.mp hp with rfl | hp
    · exact .tail _ (.tail _ (.head _))
    · rcases List.mem_cons.mp hp with rfl | hp
      · exact .tail _ (.tail _ (.tail _ (.head _)))
      · rcases List.mem_cons.mp hp with rfl | hp
        · exact .head _
        · exact .tail _ (.tail _ (.tail _ (.tail _ hp)))
  · intro p hp
    rcases List.mem_cons.mp hp with rfl | hp
    · exact hRI
    · rcases List.mem_cons.mp hp with rfl | hp
      · exact hFI
      · rcases List.mem_cons.mp hp with rfl | hp
        · exact hTI
        · exact hoff p hp
  · intro p hp
    rcases List.mem_cons.mp hp with rfl | hp
    · exact ⟨_, _, rfl⟩
    · exact hta p hp
end Mine
theorem Mine.top_off_R1 : True := by
  w_top off
  trivial
section
local macro_rules | `(tactic| walk_at "no word 4 0") => `(tactic| skip)
local macro_rules | `(tactic| walk_at "no word 4 1") => `(tactic| skip)
namespace Mine
local macro_rules | `(tactic| walk_at "execs cons Assign cons") => `(tactic| ((with_reducible show wpAny _ _ (execs (Stmt.Assign _ (Expr.List [] _) _ :: Stmt.For _ _ _ _ _ :: _) _) _ _ _); (with_reducible refine wpAny_execs_cons ?_); try dsimp only))
local macro_rules | `(tactic| walk_at "call type:range") => `(tactic| ((with_reducible show wpAny _ _ (call (Value.type _) [Value.int _ _, Value.int _ _, Value.int _ _]) _ _ _); (rename Fr _ _ _ _ => F'); (rename News _ _ _ _ => N'); (with_unfolding_all refine range3_rows F' N' (by decide) ?_); intro _ _ _ _ _ _ _ _ _))
set_option maxRecDepth 100000 in
set_option maxHeartbeats 8000000 in
theorem row_spec (w : World) (hour : Int) (t : Tok) (A : Addr) (nms : List (Str × Tok)) (kA : Nat) (s : Shared) (hA' : s.heap.get? A = some (listOf (strValues nms).toArray kA)) (hn3 : 3 ≤ nms.length) (hn5 : nms.length ≤ 5) (hh0 : 0 ≤ hour) (hh1 : hour ≤ 70000000) :
    Spec w 143 [.int hour t, .ref A] [] s (fun v nl => ∃ (R : Addr) (rv : List Value) (kr : Nat) (tl : List (Addr × PySem.Obj)), v = .ref R ∧ nl = (R, listOf rv.toArray kr) :: tl ∧ TupAll tl ∧ TwoAll tl (rowF nms) rv (rowZ hour nms.length)) := by
  unfold Spec SpecA
  k_fill
  intro e p loose mean mg mb env outer A₀ base h₀ L m Q E B F X N T hA hf hke hret
  (refine' fn_enter [] _ B F X N T hA hf hke hret ?k6 ?k7 ?k8 ?k9 ?kB ?_ ?c2 ?c3 ?c4 ?c5; (case k6 => k_is); (case k7 => k_is); (case k8 => k_room); (case k9 => exact BindsTo.of_eq rfl); (case c5 => decide); (case kB => exact locs rfl); (case c2 => exact rfl); (case c3 => exact rfl); (case c4 => exact rfl))
  clear hret F B X N T
  intro g L' h₁ hg F' N' B' X' T' hlt
  have hAg : g.get? A = some (listOf (strValues nms).toArray kA) := hg _ _ List.not_mem_nil hA'
  have hAl : g.IsList A (strValues nms).toArray := ⟨_, hAg, rfl, _, rfl⟩
  have hsl : (strValues nms).length = nms.length := by simp [strValues]
  (try dsimp only)
  try k_fold
  lge_go0
  rename Fr _ _ _ _ => F1
  rename News _ _ _ _ => N1
  obtain ⟨FG, hFG⟩ := ex_addr F1
  replace hFG := hFG.symm
  subst hFG
  refine exec_cut F1 (FgJ A FG hour nms.length nms.length) ?_ ?_
  · refine For_invVF F1 (by with_unfolding_all rfl) (by with_unfolding_all rfl) ?_ (fun _ => by with_unfolding_all rfl) PassesOwn.never
    lge_open0
    refine len_list (Fr.lst F1 hAl) (by rw [List.size_toArray, hsl]; omega) ?_
    rw [List.size_toArray, hsl]
    lge_go0
    rename IsRange _ _ _ _ _ _ _ _ => hr
    rename Fr _ _ _ _ => F2
    rename News _ _ _ _ => N2
    refine iter_range (n := nms.length) (FgJ A FG hour nms.length) rfl hr (by rcases (show nms.length = 3 ∨ nms.length = 4 ∨ nms.length = 5 by omega) with e | e | e <;> rw [e] <;> decide) (by unfold Builtin.Range.rangeSize; rw [if_neg (by decide), if_pos (by omega)]; simp) F2 N2 ?_ ?_ ?_
    · exact ⟨hour, _, [], [], 0, [], _, mp_of ⟨by with_unfolding_all rfl, by with_unfolding_all rfl, by with_unfolding_all rfl, trivial⟩, rfl, (fun _ h => nomatch h), trivial, rfl, hh0, hh1, rfl⟩
    · rintro i ti m₁ nx h tk I oI hi ⟨hc, th, fv, ds, kk, tl, u, rfl, rfl, hta, htw, hfg, hc0, hc1, hdl⟩ hoff F₃ N₃
      obtain ⟨sz, hsz⟩ : ∃ sz : Nat, nms.length - i = sz + 1 := ⟨nms.length - i - 1, by omega⟩
      have hszi : (nms.length : Int) + (i : Int) * (-1) = (sz : Int) + 1 := by omega
      rw [hszi] at F₃
      have hsz5 : sz ≤ 4 := by omega
      have hFI : @Ne Nat FG I := hoff _ (.head _)
      dsimp only
      lge_go0
      rename Fr _ _ _ _ => F9
      rename News _ _ _ _ => N9
      obtain ⟨T0, hT0⟩ := ex_news1 N9
      subst hT0
      have hsub : ∀ p ∈ tl, p ∈ ((FG, listOf fv.toArray kk) :: tl) := fun p hp => .tail _ hp
      have hTF : @Ne Nat T0 FG := fun e => by omega
      refine append_K F9 N9 (.tail hTF (.tail hFI.symm (.head (tup_off N9 (.tail _ (.tail _ (.head _))) list_ne_tup (fun p hp => .tail _ (.tail _ (.tail _ hp))) hta)))) (fun h10 F10 N10 => ?_) (by rw [List.size_toArray, htw.len, sizeLine_eq]; omega)
      dsimp only
      lge_go0
      rename Fr _ _ _ _ => F11
      rename News _ _ _ _ => N11
      obtain ⟨t1, t2, N12⟩ : ∃ t1 t2, News g L' _ ((T0, tupO (.int (hc.fmod ((sz : Int) + 1)) t1) (.int ((hc.fdiv ((sz : Int) + 1)).fmod 2) t2)) :: (I, oI) :: (FG, listOf (fv ++ [Value.ref T0]).toArray (kk + 1)) :: tl) := ⟨_, _, by rw [← List.push_toArray]; exact N11⟩
      have hTI : @Ne Nat T0 I := by omega
      have ht12 : TupAll ((T0, tupO (.int (hc.fmod ((sz : Int) + 1)) t1) (.int ((hc.fdiv ((sz : Int) + 1)).fmod 2) t2)) :: tl) := fun p hp => by
        rcases List.mem_cons.mp hp with rfl | hp
        · exact ⟨_, _, rfl⟩
        · exact hta p hp
      refine Trn.intro ((FG, listOf (fv ++ [Value.ref T0]).toArray (kk + 1)) :: (T0, tupO (.int (hc.fmod ((sz : Int) + 1)) t1) (.int ((hc.fdiv ((sz : Int) + 1)).fmod 2) t2)) :: tl) F11 N12 ?_ (.tail _ (.head _)) ?_
        ⟨hc.fdiv ((sz : Int) + 1), _, fv ++ [Value.ref T0], ds ++ [(hc.fmod ((sz : Int) + 1), (hc.fdiv ((sz : Int) + 1)).fmod 2)], kk + 1, _, _, mp_of ⟨rfl, by with_unfolding_all rfl, by with_unfolding_all rfl, trivial⟩, rfl, ht12, TwoAll.app (htw.mono fun p hp => .tail _ hp) (TwoAll.one (.head _) ⟨⟨_, rfl⟩, ⟨_, rfl⟩⟩), figs_turn hsz hfg, (fdiv_room hc0 hc1).1, (fdiv_room hc0 hc1).2, by rw [List.length_append, hdl]; rfl⟩
      · intro p hp
        rcases List.mem_cons.mp hp with rfl | hp
        · exact .tail _ (.tail _ (.head _))
        · rcases List.mem_cons.mp hp with rfl | hp
          · exact .head _
          · exact .tail _ (.tail _ (.tail _ hp))
      · intro p hp
        rcases List.mem_cons.mp hp with rfl | hp
        · exact hFI
        · rcases List.mem_cons.mp hp with rfl | hp
          · exact hTI
          · exact hoff p (.tail _ hp)
    · rintro m₁ nx h tk hJ F8 N8
      exact Nxt.intro F8 N8 hJ
  · rintro h5 tk5 m5 nx5 F5 N5 ⟨hc, th, fv, ds, kk, tl, u, rfl, rfl, hta, htw, hfg, hc0, hc1, hdl⟩
    rw [Nat.sub_self, figs, List.reverse_nil, List.append_nil] at hfg
    subst hfg
    (try dsimp only)
    lge_go0
    rename Fr _ _ _ _ => F6
    rename News _ _ _ _ => N6
    obtain ⟨R, hR⟩ := ex_news1 N6
    subst hR
    have hRF : @Ne Nat R FG := by omega
    refine exec_cut F6 (RwJ R FG nms hour nms.length nms.length) ?_ ?_
    · refine For_invTF F6 ?_ (fun _ => by with_unfolding_all rfl) PassesOwn.never
      lge_go0
      refine iter_list (listOf (strValues nms).toArray kA) (RwJ R FG nms hour nms.length) rfl rfl ⟨_, rfl⟩ F6 N6 (.inl hAg) ?_ ?_ ?_
      · exact ⟨fv, [], kk, 0, tl, _, mp_of ⟨by with_unfolding_all rfl, by with_unfolding_all rfl, trivial⟩, rfl, hRF, hta, htw, trivial⟩
      · rintro i v m₁ nx s₁ I oI hv ⟨fv, rv, kk, kr, tl, u, rfl, rfl, hRF, hta, htf, htr⟩ hoff F₃ N₃
        obtain ⟨⟨y, ty⟩, hy, rfl⟩ := strValues_get hv
        have hin : i < nms.length := (List.getElem?_eq_some_iff.mp hy).1
        have hFI : @Ne Nat FG I := hoff _ (.tail _ (.head _))
        have hRI : @Ne Nat R I := hoff _ (.head _)
        have hil : i < (figs hour nms.length).length := by rw [figs_length]; exact hin
        obtain ⟨fg, hfg⟩ : ∃ q, (figs hour nms.length)[i]? = some q := ⟨_, List.getElem?_eq_getElem hil⟩
        have hdr : (figs hour nms.length).drop i = fg :: (figs hour nms.length).drop (i + 1) := by
          rw [List.drop_eq_getElem_cons hil]
          rw [List.getElem?_eq_getElem hil] at hfg
          rw [Option.some.inj hfg]
        have htk : (figs hour nms.length).take (i + 1) = (figs hour nms.length).take i ++ [fg] := by rw [List.take_add_one, hfg]; rfl
        rw [hdr, List.reverse_cons] at htf
        obtain ⟨ws, T1, x1, y1, rfl, htf1, hm1, ⟨t1, rfl⟩, t2, rfl⟩ := TwoAll.snoc htf
        obtain ⟨hfr0, hfr1⟩ := figs_room _ _ _ (List.mem_of_getElem? hfg)
        obtain ⟨f1, f2⟩ := fg
        dsimp only at hfr0 hfr1
        have hwl : ws.length ≤ 5 := by rw [htf1.len, List.length_reverse, List.length_drop, figs_length]; omega
        have hrl := htr.len
        rw [rows_length, List.length_take, figs_length, List.length_nil, Nat.zero_add] at hrl
        lge_go0
        rename Fr _ _ _ _ => F4
        rename News _ _ _ _ => N4
        have htl4 := tup_off N4 (.tail _ (.tail _ (.head _))) list_ne_tup (fun p hp => .tail _ (.tail _ (.tail _ hp))) hta
        refine kl_pop F4 N4 (kl_last_snoc _ _) (.tail hFI.symm (.tail hRF (.head htl4))) (by rw [List.length_append, sizeLine_eq]; simp; omega) (fun h8 F8 N8 => ?_)
        dsimp only
        have hT1 : IsTup h8 T1 #[.int f1 t1, .int f2 t2] := ⟨_, (N8 _ (.tail _ (.tail _ (.tail _ hm1)))).1, rfl, _, rfl⟩
        lge_open0
        · rename f2 = 1 => hf2
          rename Fr _ _ _ _ => F9
          rename News _ _ _ _ => N9
          obtain ⟨T2, hT2⟩ := ex_news1 N9
          subst hT2
          have hTR : @Ne Nat T2 R := fun e => by omega
          have hTF : @Ne Nat T2 FG := fun e => by omega
          have hTI : @Ne Nat T2 I := fun e => by omega
          obtain ⟨t5, t6, N9⟩ : ∃ t5 t6, News g L' _ ((T2, tupO (.str (look true) t5) (.str y t6)) :: (I, oI) :: (R, listOf rv.toArray kr) :: (FG, listOf ws.toArray (kk + 1)) :: tl) := ⟨_, _, N9⟩
          have htl9 := tup_off N9 (.tail _ (.tail _ (.head _))) list_ne_tup (fun p hp => .tail _ (.tail _ (.tail _ (.tail _ hp)))) hta
          refine kl_insert F9 N9 (fits_small (by omega) (by omega)) rfl (.tail hTR (.tail hRI.symm (.head (fun p hp => by rcases List.mem_cons.mp hp with rfl | hp; exact hRF.symm; exact htl9 p hp)))) (by rw [sizeLine_eq]; simp; omega) (fun h10 F10 N10 => ?_)
          dsimp only
          lge_go0
          exact row_turn F10 ⟨rfl, rfl, trivial⟩ N10 hta hTI hRI hFI hRF (fun p hp => hoff p (.tail _ (.tail _ hp))) htf1 (by
            rw [htk, List.foldl_append, List.foldl_cons, List.foldl_nil]
            rw [rowStep_t _ hf2]
            refine TwoAll.ins (htr.mono fun p hp => .tail _ hp) (.head _) ⟨⟨_, rfl⟩, y, _, ty, ?_, rfl⟩
            rw [rows_length, List.length_take, figs_length, List.length_nil, Nat.zero_add, Nat.min_eq_left (Nat.le_of_lt hin)]
            exact hy)
        · rename ¬ f2 = 1 => hf2
          rename Fr _ _ _ _ => F9
          rename News _ _ _ _ => N9
          refine len_list (N9.isList (.tail _ (.head _))) (by rw [List.size_toArray]; omega) ?_
          rw [List.size_toArray]
          lge_go0
          rename Fr _ _ _ _ => F9
          rename News _ _ _ _ => N9
          obtain ⟨T2, hT2⟩ := ex_news1 N9
          subst hT2
          have hTR : @Ne Nat T2 R := fun e => by omega
          have hTF : @Ne Nat T2 FG := fun e => by omega
          have hTI : @Ne Nat T2 I := fun e => by omega
          obtain ⟨t5, t6, N9⟩ : ∃ t5 t6, News g L' _ ((T2, tupO (.str (look false) t5) (.str y t6)) :: (I, oI) :: (R, listOf rv.toArray kr) :: (FG, listOf ws.toArray (kk + 1)) :: tl) := ⟨_, _, N9⟩
          have htl9 := tup_off N9 (.tail _ (.tail _ (.head _))) list_ne_tup (fun p hp => .tail _ (.tail _ (.tail _ (.tail _ hp)))) hta
          refine kl_insert F9 N9 (fits_small (by omega) (by omega)) rfl (.tail hTR (.tail hRI.symm (.head (fun p hp => by rcases List.mem_cons.mp hp with rfl | hp; exact hRF.symm; exact htl9 p hp)))) (by rw [sizeLine_eq]; simp; omega) (fun h10 F10 N10 => ?_)
          dsimp only
          lge_go0
          exact row_turn F10 ⟨rfl, rfl, trivial⟩ N10 hta hTI hRI hFI hRF (fun p hp => hoff p (.tail _ (.tail _ hp))) htf1 (by
            rw [htk, List.foldl_append, List.foldl_cons, List.foldl_nil]
            rw [rowStep_f _ hf2, ← htr.len]
            refine TwoAll.ins (htr.mono fun p hp => .tail _ hp) (.head _) ⟨⟨_, rfl⟩, y, _, ty, ?_, rfl⟩
            show nms[rv.length]? = _
            rw [hrl, Nat.min_eq_left (Nat.le_of_lt hin)]
            exact hy)
      · rintro m₁ nx h tk hJ F8 N8
        rw [hsl] at hJ
        exact Nxt.intro F8 N8 hJ
    · rintro h7 tk7 m7 nx7 F7 N7 ⟨fv, rv, kk, kr, tl, u, rfl, rfl, hRF, hta, htf, htr⟩
      rw [List.take_of_length_le (Nat.le_of_eq (figs_length _ _))] at htr
      (try dsimp only)
      lge_go0
      exact ⟨_, (R, listOf rv.toArray kr) :: tl, F7, (fun p hp => N7 p (by
        rcases List.mem_cons.mp hp with rfl | hp
        · exact .head _
        · exact .tail _ (.tail _ hp))), ⟨R, rv, kr, tl, rfl, rfl, hta, htr⟩, _, _, rfl⟩
end Mine
end
theorem Mine.top_off_P0 : True := by
  w_top off
  trivial
set_option maxRecDepth 100000
namespace Mine
section
variable {prog : Program} {w : World} {A : Around} {E : Value → Shared → Prop} {s : Shared} {R : Result → Shared → Prop}
abbrev twoC (elt tg iter0 tg1 iter1 : PySem.Expr) (scope : Scope) (pos : Pos) : PySem.Expr := .ListComp elt [⟨tg, iter0, [], 0⟩, ⟨tg1, iter1, [], 0⟩] scope pos
theorem turn_two0 (elt tg iter0 tg1 iter1 : PySem.Expr) (scope : Scope) (pos : Pos) (it acc : Value) (env : Env) :
    compTurn (twoC elt tg iter0 tg1 iter1 scope pos) 0 it acc env = (standAt iter0.pos >>= fun _ => pyNext it >>= fun r => match r with
      | none => pure (.done .next)
      | some v => letOwnedTupleGo tg it v >>= fun _ => assign tg env v >>= fun _ =>
        eval iter1 env >>= fun x => standAt iter1.pos >>= fun _ => foldedSetIterable iter1 env x >>= fun x => holding [x] (pyIter x) >>= fun it2 => runOwn (.compStart (twoC elt tg iter0 tg1 iter1 scope pos) 1 it2 acc env) env >>= fun _ =>
          again (.compLoop (twoC elt tg iter0 tg1 iter1 scope pos) 0 it acc env)) := by rfl
theorem turn_two1 (elt tg iter0 tg1 iter1 : PySem.Expr) (scope : Scope) (pos : Pos) (it acc : Value) (env : Env) :
    compTurn (twoC elt tg iter0 tg1 iter1 scope pos) 1 it acc env = (standAt iter1.pos >>= fun _ => pyNext it >>= fun r => match r with
      | none => pure (.done .next)
      | some v => letOwnedTupleGo tg1 it v >>= fun _ => assign tg1 env v >>= fun _ =>
        (eval elt env >>= fun x => call (.builtin "list.append") [acc, x] >>= fun _ => pure ()) >>= fun _ =>
          again (.compLoop (twoC elt tg iter0 tg1 iter1 scope pos) 1 it acc env)) := by rfl
theorem start_two1 {elt tg iter0 tg1 iter1 : PySem.Expr} {scope : Scope} {pos : Pos} {it acc : Value} {env : Env}
    (h0 : codeAny (model prog w) A (.compLoop (twoC elt tg iter0 tg1 iter1 scope pos) 1 it acc env) R s)
    (h : wpAny (model prog w) A (pyIter it) (fun it' s' => codeAny (model prog w) A (.compLoop (twoC elt tg iter0 tg1 iter1 scope pos) 1 it' acc env) R s')
      (notedBy (model prog w) A env fun x s' => R (.error x) s') s) :
    codeAny (model prog w) A (.compStart (twoC elt tg iter0 tg1 iter1 scope pos) 1 it acc env) R s := by
  refine codeAny_of_tree ?_
  show wpAny _ _ ((compStart (twoC elt tg iter0 tg1 iter1 scope pos) 1 it acc env).onRaise (fun x => do noteFrame x env; standAt theWindowsPlace)) _ _ s
  refine wpAny_notedAt ?_
  unfold compStart
  show wpAny _ _ (ask >>= _) _ _ s
  refine wpAny_bind (wpAny_askSetting (wpAny_ite ?_))
  split
  · first
      | exact wpAny_bind (wpAny_pure (wpAny_pure (And.intro rfl h0)))
      | exact wpAny_pure (And.intro rfl h0)
  · first
      | exact wpAny_bind (wpAny_rule (wpAny_bind (wpAny_standAt (wpAny_bind (wpAny_mono h (fun it' s' h' => wpAny_pure (And.intro rfl h')) fun _ _ x => x)))))
      | (refine wpAny_bind (wpAny_rule ?_); show wpAny _ _ (standAt iter1.pos >>= _) _ _ s; exact wpAny_bind (wpAny_standAt (wpAny_bind (wpAny_mono h (fun it' s' h' => wpAny_pure (And.intro rfl h')) fun _ _ x => x))))
theorem loop_two1 {elt tg iter0 tg1 iter1 : PySem.Expr} {scope : Scope} {pos : Pos} {it acc : Value} {env : Env} (I : Nat → Shared → Prop)
    (turn : ∀ n s, I n s → wpAny (model prog w) A (pyNext it) (fun r s₁ => match r with
      | none => R (.ok .next) s₁
      | some v => wpAny (model prog w) A (assign tg1 env v) (fun _ s₂ =>
          wpAny (model prog w) A (eval elt env) (fun x s₄ =>
            wpAny (model prog w) A (call (.builtin "list.append") [acc, x]) (fun _ s₅ => ∃ m, m < n ∧ I m s₅) (notedBy (model prog w) A env fun e s' => R (.error e) s') s₄) (notedBy (model prog w) A env fun e s' => R (.error e) s') s₂)
          (notedBy (model prog w) A env fun e s' => R (.error e) s') s₁) (notedBy (model prog w) A env fun e s' => R (.error e) s') s)
    (n : Nat) (h : I n s) (ht : ∀ v, letOwnedTupleGo tg1 it v = pure ()) : codeAny (model prog w) A (.compLoop (twoC elt tg iter0 tg1 iter1 scope pos) 1 it acc env) R s := by
  refine codeAny_loop rfl I (fun n s hI => ?_) n h
  show wpAny _ A ((compTurn (twoC elt tg iter0 tg1 iter1 scope pos) 1 it acc env).onRaise (fun x => do noteFrame x env; theTreesLotGoes x)) _ _ s
  refine wpAny_noted ?_
  rw [turn_two1]
  refine wpAny_bind (wpAny_standAt (wpAny_bind (wpAny_mono (turn n s hI) (fun r s₁ h₁ => ?_) fun _ _ h' => h')))
  cases r with
  | none => exact wpAny_pure h₁
  | some v =>
    refine wpAny_bind (wpAny_of_eq (ht v) ?_)
    refine wpAny_bind (wpAny_mono h₁ (fun _ s₂ h₂ => ?_) fun _ _ h' => h')
    refine wpAny_bind (wpAny_bind (wpAny_mono h₂ (fun x s₄ h₄ => wpAny_bind (wpAny_mono h₄ (fun _ s₅ h₅ => wpAny_pure (wpAny_pure ⟨rfl, h₅⟩)) fun _ _ h' => h')) fun _ _ h' => h'))
theorem loop_two0 {elt tg iter0 tg1 iter1 : PySem.Expr} {scope : Scope} {pos : Pos} {it acc : Value} {env : Env} (I : Nat → Shared → Prop)
    (turn : ∀ n s, I n s → wpAny (model prog w) A (pyNext it) (fun r s₁ => match r with
      | none => R (.ok .next) s₁
      | some v => wpAny (model prog w) A (letOwnedTupleGo tg it v) (fun _ s₀ => wpAny (model prog w) A (assign tg env v) (fun _ s₂ =>
          wpAny (model prog w) A (eval iter1 env) (fun x s₄ => wpAny (model prog w) A (pyIter x) (fun it2 s₅ =>
            codeAny (model prog w) A (.compStart (twoC elt tg iter0 tg1 iter1 scope pos) 1 it2 acc env) (fun r s' => match r with
              | .ok _ => ∃ m, m < n ∧ I m s'
              | .error e => cameBackBy (model prog w) A env (notedBy (model prog w) A env fun e s' => R (.error e) s') e s') s₅)
            (notedBy (model prog w) A env fun e s' => R (.error e) s') s₄) (notedBy (model prog w) A env fun e s' => R (.error e) s') s₂)
          (notedBy (model prog w) A env fun e s' => R (.error e) s') s₀) (notedBy (model prog w) A env fun e s' => R (.error e) s') s₁) (notedBy (model prog w) A env fun e s' => R (.error e) s') s)
    (n : Nat) (h : I n s) (hs : ∀ x, foldedSetIterable iter1 env x = pure x) : codeAny (model prog w) A (.compLoop (twoC elt tg iter0 tg1 iter1 scope pos) 0 it acc env) R s := by
  refine codeAny_loop rfl I (fun n s hI => ?_) n h
  show wpAny _ A ((compTurn (twoC elt tg iter0 tg1 iter1 scope pos) 0 it acc env).onRaise (fun x => do noteFrame x env; theTreesLotGoes x)) _ _ s
  refine wpAny_noted ?_
  rw [turn_two0]
  refine wpAny_bind (wpAny_standAt (wpAny_bind (wpAny_mono (turn n s hI) (fun r s₁ h₁ => ?_) fun _ _ h' => h')))
  cases r with
  | none => exact wpAny_pure h₁
  | some v =>
    refine wpAny_bind (wpAny_mono h₁ (fun _ s₀ h₀' => ?_) fun _ _ h' => h')
    refine wpAny_bind (wpAny_mono h₀' (fun _ s₂ h₂ => ?_) fun _ _ h' => h')
    refine wpAny_bind (wpAny_mono h₂ (fun x s₄ h₄ => ?_) fun _ _ h' => h')
    refine wpAny_bind (wpAny_standAt (wpAny_bind (wpAny_of_eq (hs x) (wpAny_bind (wpAny_holding (wpAny_mono h₄ (fun it2 s₅ h₅ => ?_) fun _ _ h' => h'))))))
    refine wpAny_bind (wpAny_runOwn (codeAny_mono h₅ fun r s' hr => ?_))
    cases r with
    | ok f => exact wpAny_pure ⟨rfl, hr⟩
    | error e => exact hr

theorem lt3 {c x C : Nat} (h : c < x) (e : x = C) (_ : x ≤ x) : c < C ∧ @Ne Nat c C := ⟨e ▸ h, Nat.ne_of_lt (e ▸ h)⟩
theorem lt4 {c x I D C : Nat} (h : c < x) (e : x = I) (h1 : D = I + 1) (h2 : C = I + 2) : @Ne Nat c I ∧ @Ne Nat c D ∧ @Ne Nat c C := by omega
noncomputable def CompTwo (prog : Program) (w : World) (A : Around) (h₀ : Heap) (env : Env) (elt iter1 : PySem.Expr) (a b y : Str) (scope : Scope) (cl : List (Str × Addr)) (Z : Nat → Str) (G : Nat → Str) (n : Nat) (Q : Value → Shared → Prop) (xv : Value) (s : Shared) : Prop :=
  ∃ (l : Addr) (vs : List Value) (m : Str → Option Value) (news : List (Addr × PySem.Obj)), xv = .ref l ∧ s.heap.IsList l vs.toArray ∧ Fr h₀ env.locals s.heap m ∧ News h₀ env.locals s.heap news ∧ vs.length = n ∧ n ≤ 100 ∧ (∀ i, i < n → (Z i).length ≤ 100) ∧
    (∀ (i : Nat) (v : Value), vs[i]? = some v → ∃ T x z, v = .ref T ∧ s.heap.get? T = some (tupO x z) ∧
      ∀ (C : Addr) (s₃ : Shared) (m₃ : Str → Option Value) (E' : Value → Shared → Prop), Fr s.heap C s₃.heap m₃ → m₃ a = some x → m₃ b = some z →
        wpAny (model prog w) A (eval iter1 (compEnvC scope cl C env)) (fun v s' => (∃ t, v = .str (Z i) t) ∧ Keeps s₃ s') E' s₃) ∧
    (∀ (C : Addr) (c : Nat) (t : Tok) (s₃ : Shared) (m₃ : Str → Option Value) (E' : Value → Shared → Prop), Fr s.heap C s₃.heap m₃ → m₃ y = some (.str ⟨#[c]⟩ t) →
      wpAny (model prog w) A (eval elt (compEnvC scope cl C env)) (fun v s' => (∃ t', v = .str (G c) t') ∧ Keeps s₃ s') E' s₃) ∧
    (∀ D h' tk (zs : List (Str × Tok)) k, Fr h₀ env.locals h' m → News h₀ env.locals h' ((D, listOf (strValues zs).toArray k) :: news) → zs.map (·.1) = (List.range n).flatMap (fun i => (Z i).cps.toList.map G) →
      Q (.ref D) { s with heap := h', toks := tk })
theorem strValues_snoc (zs : List (Str × Tok)) (x : Str) (t : Tok) : (strValues zs).toArray.push (.str x t) = (strValues (zs ++ [(x, t)])).toArray := by
  rw [List.push_toArray]; simp [strValues]
theorem keeps_ext {h h' : Heap} {C : Addr} (hs : Heap.SameBut C h h') : ∀ b o, b ≠ C → h.get? b = some o → h'.get? b = some o := fun b o hb e => hs.extBut b o hb e
theorem flat_len (Z : Nat → Str) (G : Nat → Str) : ∀ n, (∀ i, i < n → (Z i).length ≤ 100) → ((List.range n).flatMap (fun i => (Z i).cps.toList.map G)).length ≤ 100 * n
  | 0, _ => by simp
  | n + 1, h => by
    have ih := flat_len Z G n fun i hi => h i (Nat.lt_succ_of_lt hi)
    have h1 := h n (Nat.lt_succ_self n)
    rw [List.range_succ, List.flatMap_append, List.length_append]
    simp [Str.length] at ih h1 ⊢
    omega
set_option maxHeartbeats 2000000 in
theorem comp_two {env : Env} {h₀ : Heap} {elt iter0 iter1 : PySem.Expr} {a b y : Str} {pa pb py tp : Pos} {kk : Nat} {scope : Scope} {cl : List (Str × Addr)} {pos : Pos} {Q : Value → Shared → Prop} {m₀ : Str → Option Value} (_F : Fr h₀ env.locals s.heap m₀)
    (Z : Nat → Str) (G : Nat → Str) (n : Nat) (hh : A.handled = none) (hclos : closureFor scope env = pure cl) (hcell : ∀ z ∈ scope.names, z.2 ≠ .cell) (hkind : scope.kind = .function)
    (hnames : ∀ z ∈ scope.names, z.2 = .local → scope.names.lookup z.1 = some .local) (ha : scope.names.lookup a = some .local) (hb : scope.names.lookup b = some .local) (hy : scope.names.lookup y = some .local) (hab : a ≠ b)
    (h : wpAny (model prog w) A (eval iter0 env) (CompTwo prog w A h₀ env elt iter1 a b y scope cl Z G n Q) E s) (hs0 : ∀ x, foldedSetIterable iter0 env x = pure x)
    (hs1 : ∀ C x, foldedSetIterable iter1 (compEnvC scope cl C env) x = pure x) :
    wpAny (model prog w) A (eval (twoC elt (.Tuple [.Name a pa, .Name b pb] kk tp) iter0 (.Name y py) iter1 scope pos) env) Q E s := by
  rw [eval_ListComp]
  refine wpAny_comprehension_free (use := none) rfl hs0 hclos hkind hnames (wpAny_mono h (fun xv s₁ h₁ => ?_) fun _ _ e => e)
  obtain ⟨l, vs, m, news, rfl, hl, F, N, hn, hn100, hZ, hsrc, helt, hQ⟩ := h₁
  subst hn
  have hpl : ∀ C, ((compEnvC scope cl C env).scope.kind == .class || ((compEnvC scope cl C env).scope.kind == .module && (compEnvC scope cl C env).locals != (compEnvC scope cl C env).globals)) = false := fun C => by simp [compEnvC, relabel, hkind]
  obtain ⟨ol, hol, hcl, k0, hd0⟩ := id hl
  have hne : l ≠ s₁.heap.objs.size := Nat.ne_of_lt (Heap.lt_size hol)
  refine wpAny_pyIter_list hl ?_
  have W := Walks.list (prog := prog) (w := w) hh s₁.heap.objs.size l hne vs.toArray
  generalize hI : s₁.heap.objs.size = I at W hne ⊢
  generalize hH1 : s₁.heap.push _ = H1
  have hIt : H1.IsListIter I l 0 := by rw [← hH1, ← hI]; exact ⟨_, Heap.get?_push_size _ rfl, rfl, rfl⟩
  have k1 : ∀ c o, s₁.heap.get? c = some o → H1.get? c = some o := fun c o e => by rw [← hH1]; exact Heap.get?_push_of_some _ e
  have hz1 : H1.objs.size = I + 1 := by rw [← hH1, Heap.size_push, hI]
  clear hH1
  refine wpAny_newObj_type (wpAny_newFunctionEnv hcell (by intro y hy; simp at hy) (fun h₁ hns₁ hsb₁ => ?_) hkind)
  dsimp only at hns₁ hsb₁ ⊢
  generalize hH2 : H1.push { cls := .type "list", dict := none, data := .seq ([] : List Value).toArray } = H2 at hns₁ hsb₁ ⊢
  have hD2 : H2.get? H1.objs.size = some (listOf (strValues []).toArray 0) := by rw [← hH2]; exact Heap.get?_push_size _ rfl
  have k2 : ∀ c o, H1.get? c = some o → H2.get? c = some o := fun c o e => by rw [← hH2]; exact Heap.get?_push_of_some _ e
  have hz2 : H2.objs.size = I + 2 := by rw [← hH2, Heap.size_push, hz1]
  clear hH2
  generalize hD : H1.objs.size = D at hD2 ⊢
  generalize hC : H2.objs.size = C at hns₁ hsb₁ ⊢
  have hDI' : D = I + 1 := by omega
  have hCI' : C = I + 2 := by omega
  have hDI : @Ne Nat I D := by omega
  have hCI : @Ne Nat I C := by omega
  have hDC : @Ne Nat D C := by omega
  have k3 : ∀ c o, H2.get? c = some o → h₁.get? c = some o := fun c o e => hsb₁.extBut c o (lt3 (Heap.lt_size e) hC (Nat.le_refl _)).2 (Heap.get?_push_of_some _ e)
  have kk1 : ∀ c o, s₁.heap.get? c = some o → h₁.get? c = some o := fun c o e => k3 _ _ (k2 _ _ (k1 _ _ e))
  have hD1 := k3 _ _ hD2
  have hI1 : h₁.IsListIter I l 0 := hIt.at fun o e => k3 _ _ (k2 _ _ e)
  have hsz : s₁.heap.objs.size = I := hI
  have below : ∀ c o, s₁.heap.get? c = some o → @Ne Nat c I ∧ @Ne Nat c D ∧ @Ne Nat c C := fun c o e => lt4 (Heap.lt_size e) hI hDI' hCI'
  have hCb : s₁.heap.objs.size ≤ C := by omega
  have hns : h₁.Ns C fun _ => none := by simpa using hns₁
  clear k1 k2 k3 hIt hD2 hz1 hz2 hns₁ hsb₁
  have hav := lookup_relabel_local (env := env) ha
  have hbv := lookup_relabel_local (env := env) hb
  have hyv := lookup_relabel_local (env := env) hy
  have hfl := flat_len Z G
  have loop : ∀ s₃ : Shared, s₃ = { s₁ with heap := h₁, toks := s₁.toks + ([] : List (Str × Value)).length } →
      codeAny (model prog w) A (.compLoop (twoC elt (.Tuple [.Name a pa, .Name b pb] kk tp) iter0 (.Name y py) iter1 scope pos) 0 (.ref I) (.ref D) (compEnvC scope cl C env)) (compPost (model prog w) A E none Q (.ref D) C) s₃ := by
    rintro s₃ rfl
    refine loop_two0 (fun k s' => ∃ h tk i m' zs kz, s' = { s₁ with heap := h, toks := tk } ∧ i ≤ vs.length ∧ k = vs.length + 1 - i ∧ h.Ns C m' ∧ (∀ c o, s₁.heap.get? c = some o → h.get? c = some o) ∧
      h.get? D = some (listOf (strValues zs).toArray kz) ∧ h.IsListIter I l i ∧ zs.map (·.1) = (List.range i).flatMap fun i => (Z i).cps.toList.map G) ?_ (vs.length + 1)
      ⟨h₁, _, 0, _, [], 0, rfl, Nat.zero_le _, rfl, hns, kk1, hD1, hI1, rfl⟩ (hs1 C)
    rintro k s' ⟨h, tk, i, m', zs, kz, rfl, hi, rfl, hn', hk, hDz, hIi, hzs⟩
    have hlh : h.IsList l vs.toArray := hl.at fun o e => hk _ _ e
    have hsz : vs.toArray.size = vs.length := by simp
    rw [hsz] at W
    by_cases hlt : i < vs.length
    · refine W.item i _ _ _ hlt ⟨hIi, hlh⟩ fun v h₂ tk₂ hv st₂ hk₂ => ?_
      have hv' : vs[i]? = some v := by simpa using hv
      obtain ⟨T, x, z, rfl, hT, hev⟩ := hsrc i v hv'
      have up₂ : ∀ c o, @Ne Nat c I → h.get? c = some o → h₂.get? c = some o := fun c o hc e => hk₂ c o (fun hm => hc (List.mem_singleton.mp hm)) e
      have hk2 : ∀ c o, s₁.heap.get? c = some o → h₂.get? c = some o := fun c o e => up₂ c o (below c o e).1 (hk c o e)
      refine wpAny_letOwnedTupleGo_listiter st₂.1 ?_
      have hn₂ : h₂.Ns C m' := hn'.at' fun o e => up₂ _ _ hCI.symm e
      refine kcp_assign hh ⟨_, hk2 _ _ hT, rfl, _, rfl⟩ hav hbv (hpl C) hn₂ fun h₃ tk₃ hn₃ hk₃ => ?_
      have hk3 : ∀ c o, s₁.heap.get? c = some o → h₃.get? c = some o := fun c o e => hk₃ c o (below c o e).2.2 (hk2 c o e)
      have hI₃ : h₃.IsListIter I l (i + 1) := st₂.1.at fun o e => hk₃ _ _ hCI e
      have hD₃ := hk₃ _ _ hDC (up₂ _ _ hDI.symm hDz)
      refine wpAny_mono (hev C _ _ _ ⟨hn₃, hk3, hCb⟩ (by simp [hab]) (by simp)) (fun v s₄ hv4 => ?_) fun _ _ e => e
      obtain ⟨⟨tz, rfl⟩, h₄, tk₄, rfl, hk₄⟩ := hv4
      refine wpAny_pyIter_str fun o St W2 hst => ?_
      replace W2 := W2 A hh
      dsimp only at hst ⊢
      have lt4' : ∀ c o, h₄.get? c = some o → @Ne Nat c h₄.objs.size := fun c o e => Nat.ne_of_lt (Heap.lt_size e)
      have hI2J : @LT.lt Nat _ I h₄.objs.size := by
        obtain ⟨oI, hoI, _⟩ := id hI₃
        exact Heap.lt_size (hk₄ _ _ hoI)
      obtain ⟨oI, hoI, _⟩ := id hI₃
      obtain ⟨oC, _, _, hoC, _⟩ := id hn₃
      have hI2I := lt4' _ _ (hk₄ _ _ hoI)
      have hI2D := lt4' _ _ (hk₄ _ _ hD₃)
      have hI2C := lt4' _ _ (hk₄ _ _ hoC)
      have up5 : ∀ c o', h₃.get? c = some o' → (h₄.push o).get? c = some o' := fun c o' e => Heap.get?_push_of_some _ (hk₄ _ _ e)
      generalize h₄.objs.size = I2 at W2 hst hI2I hI2D hI2C hI2J ⊢
      generalize hH5 : h₄.push o = h₅ at hst up5 ⊢
      have hzb := hfl i fun j hj => hZ j (Nat.lt_trans hj hlt)
      rw [← hzs, List.length_map] at hzb
      have hZi := hZ i hlt
      have hZl : (Z i).cps.size ≤ 100 := hZi
      have inner : ∀ s₃ : Shared, s₃ = { s₁ with heap := h₅, toks := tk₄ } → codeAny (model prog w) A (.compLoop (twoC elt (.Tuple [.Name a pa, .Name b pb] kk tp) iter0 (.Name y py) iter1 scope pos) 1 (.ref I2) (.ref D) (compEnvC scope cl C env))
          (fun r s' => match r with
              | .ok _ => ∃ m, m < vs.length + 1 - i ∧ ∃ h tk i m' zs kz, s' = { s₁ with heap := h, toks := tk } ∧ i ≤ vs.length ∧ m = vs.length + 1 - i ∧ h.Ns C m' ∧ (∀ c o, s₁.heap.get? c = some o → h.get? c = some o) ∧
                h.get? D = some (listOf (strValues zs).toArray kz) ∧ h.IsListIter I l i ∧ zs.map (·.1) = (List.range i).flatMap fun i => (Z i).cps.toList.map G
              | .error e => cameBackBy (model prog w) A (compEnvC scope cl C env) (notedBy (model prog w) A (compEnvC scope cl C env) fun e s' => compPost (model prog w) A E none Q (.ref D) C (.error e) s') e s') s₃ := by
        rintro s₃ rfl
        refine loop_two1 (fun k s' => ∃ h tk j m' zs' kz', s' = { s₁ with heap := h, toks := tk } ∧ j ≤ (Z i).cps.size ∧ k = (Z i).cps.size + 1 - j ∧ h.Ns C m' ∧ (∀ c o, s₁.heap.get? c = some o → h.get? c = some o) ∧
          h.get? D = some (listOf (strValues zs').toArray kz') ∧ h.IsListIter I l (i + 1) ∧ St j h ∧ zs'.map (·.1) = ((List.range i).flatMap fun i => (Z i).cps.toList.map G) ++ ((Z i).cps.toList.take j).map G) ?_ ((Z i).cps.size + 1)
          ⟨h₅, _, 0, _, zs, kz, rfl, Nat.zero_le _, rfl, hn₃.at' fun o e => up5 _ _ e, fun c o e => up5 _ _ (hk3 c o e), up5 _ _ hD₃, hI₃.at fun o e => up5 _ _ e, hst, by rw [hzs]; simp⟩ (fun _ => rfl)
        rintro k s' ⟨h, tk, j, m', zs', kz', rfl, hj, rfl, hn', hk, hDz, hIi, hSt, hzs'⟩
        by_cases hlt2 : j < (Z i).cps.size
        · refine W2.item j _ _ _ hlt2 hSt fun v h₆ tk₆ hv st₆ hk₆ => ?_
          obtain ⟨c, u, hc, rfl⟩ := hv
          have up₆ : ∀ c o, @Ne Nat c I2 → h.get? c = some o → h₆.get? c = some o := fun c o hc e => hk₆ c o (fun hm => hc (List.mem_singleton.mp hm)) e
          have hn₆ : h₆.Ns C m' := hn'.at' fun o e => up₆ _ _ hI2C e
          have hI2s : ∀ c o, s₁.heap.get? c = some o → @Ne Nat c I2 := fun c o e => by
            have h1 : @LT.lt Nat _ c s₁.heap.objs.size := Heap.lt_size e
            omega
          refine wpAny_assign_Name (wpAny_storeName_local hyv hn₆ (fun h₇ hn₇ hs₇ => ?_) (hpl C))
          have up₇ : ∀ c o, @Ne Nat c I2 → @Ne Nat c C → h.get? c = some o → h₇.get? c = some o := fun c o h1 h2 e => hs₇.extBut c o h2 (up₆ c o h1 e)
          refine wpAny_mono (helt C c u _ _ _ ⟨hn₇, fun c o e => up₇ c o (hI2s c o e) (below c o e).2.2 (hk c o e), hCb⟩ (by simp)) (fun v s₈ hv8 => ?_) fun _ _ e => e
          obtain ⟨⟨tz', rfl⟩, h₈, tk₈, rfl, hk₈⟩ := hv8
          have hzb2 : (strValues zs').toArray.size ≤ sizeLine := by
            have h1 := congrArg List.length hzs'
            rw [List.length_map, List.length_append, List.length_map, List.length_take, ← hzs, List.length_map] at h1
            have h2 : (strValues zs').toArray.size = zs'.length := by simp [strValues]
            rw [h2, sizeLine_eq]
            omega
          refine append_at (hk₈ _ _ (up₇ _ _ hI2D hDC hDz)) (fun h₉ hs₉ hD₉ => ?_) hzb2
          have up₉ : ∀ c o, @Ne Nat c I2 → @Ne Nat c C → @Ne Nat c D → h.get? c = some o → h₉.get? c = some o := fun c o h1 h2 h3 e => hs₉.extBut c o h3 (hk₈ _ _ (up₇ c o h1 h2 e))
          have hn₉ := hn₇.at' (h' := h₉) fun o e => hs₉.extBut _ _ hDC.symm (hk₈ _ _ e)
          refine ⟨(Z i).cps.size + 1 - (j + 1), by omega, h₉, _, j + 1, _, zs' ++ [(G c, tz')], kz' + 1, rfl, hlt2, rfl, hn₉, fun c o e => up₉ c o (hI2s c o e) (below c o e).2.2 (below c o e).2.1 (hk c o e), ?_, hIi.at fun o e => up₉ _ _ hI2I hCI hDI e, ?_, ?_⟩
          · rw [hD₉, strValues_snoc]
          · refine W2.frame (j + 1) h₆ h₉ st₆ fun b hb o e => ?_
            rw [List.mem_singleton.mp hb] at e ⊢
            exact hs₉.extBut _ _ hI2D.symm (hk₈ _ _ (hs₇.extBut _ _ hI2C.symm e))
          · have hc' : (Z i).cps.toList[j]? = some c := by simpa using hc
            rw [List.map_append, hzs', List.take_add_one, hc']
            simp
        · have hj' : j = (Z i).cps.size := Nat.le_antisymm hj (Nat.not_lt.mp hlt2)
          refine W2.done _ _ _ (hj' ▸ hSt) fun h₆ tk₆ hk₆ => ?_
          have up₆ : ∀ c o, @Ne Nat c I2 → h.get? c = some o → h₆.get? c = some o := fun c o hc e => hk₆ c o (fun hm => hc (List.mem_singleton.mp hm)) e
          have hI2s : ∀ c o, s₁.heap.get? c = some o → @Ne Nat c I2 := fun c o e => by
            have h1 : @LT.lt Nat _ c s₁.heap.objs.size := Heap.lt_size e
            omega
          refine ⟨vs.length + 1 - (i + 1), by omega, h₆, _, i + 1, m', zs', kz', rfl, hlt, rfl, hn'.at' fun o e => up₆ _ _ hI2C e, fun c o e => up₆ c o (hI2s c o e) (hk c o e), up₆ _ _ hI2D hDz, hIi.at fun o e => up₆ _ _ hI2I e, ?_⟩
          have e5 : (Z i).cps.toList.take (Z i).cps.size = (Z i).cps.toList := List.take_of_length_le (by simp)
          rw [hzs', hj', List.range_succ, List.flatMap_append, e5]
          simp
      exact start_two1 (inner _ rfl) (W2.self 0 _ _ _ hst (inner _ rfl))
    · have hi' : i = vs.length := Nat.le_antisymm hi (Nat.not_lt.mp hlt)
      subst hi'
      refine W.done _ _ _ ⟨hIi, hlh⟩ fun h₂ tk₂ hk₂ => ?_
      have up₂ : ∀ c o, @Ne Nat c I → h.get? c = some o → h₂.get? c = some o := fun c o hc e => hk₂ c o (fun hm => hc (List.mem_singleton.mp hm)) e
      refine ⟨m', hn'.at' fun o e => up₂ _ _ hCI.symm e, fun h₃ hs₃ => ?_⟩
      have up₃ : ∀ c o, s₁.heap.get? c = some o → h₃.get? c = some o := fun c o e => hs₃.extBut c o (below c o e).2.2 (up₂ c o (below c o e).1 (hk c o e))
      refine hQ D h₃ tk₂ zs kz (F.kept up₃) ?_ hzs
      refine News.kept_cons F N up₃ ?_ (hs₃.extBut _ _ hDC (up₂ _ _ hDI.symm hDz))
      rw [hI, hDI']; exact Nat.le_succ _
  exact codeAny_compStart_list (loop _ rfl) (W.self 0 _ _ _ ⟨hI1, hl.at fun o e => kk1 _ _ e⟩ (loop _ rfl))
end
noncomputable def rowText (nm : List (List Nat)) (rz : List (Bool × Nat)) : List Nat := rz.flatMap fun q => (if q.1 then 9 else 32) :: nm.getD q.2 []
noncomputable def tellC (c : Nat) : Str := if c = 38 then Str.ofString "&amp;" else if c = 60 then Str.ofString "&lt;" else if c = 9 then Str.ofString "&#x9;" else ⟨#[c]⟩
noncomputable def tellW (c : Nat) : Str := if c = 38 then Str.ofString "&amp;" else if c = 60 then Str.ofString "&lt;" else if c = 62 then Str.ofString "&gt;" else if c = 9 then Str.ofString "&#09;" else ⟨#[c]⟩
noncomputable def tell (wide : Bool) : Nat → Str := if wide then tellW else tellC
noncomputable def rowZs (nms : List (Str × Tok)) (rz : List (Bool × Nat)) (i : Nat) : Str := match rz[i]? with
  | some q => look q.1 ++ ((nms[q.2]?.map (·.1)).getD ⟨#[]⟩)
  | none => ⟨#[]⟩
theorem join_empty (ys : List Str) : (Txt.join ⟨#[]⟩ ys).cps.toList = ys.flatMap (·.cps.toList) := by
  have key : ∀ (l : List Str) (acc : Array Nat), (l.foldl (fun acc p => acc ++ (#[] : Array Nat) ++ p.cps) acc).toList = acc.toList ++ l.flatMap (·.cps.toList) := by
    intro l
    induction l with
    | nil => intro acc; simp
    | cons a r ih => intro acc; rw [List.foldl_cons, ih]; simp
  cases ys with
  | nil => rfl
  | cons a r =>
    show ((r.foldl (fun acc p => acc ++ (#[] : Array Nat) ++ p.cps) a.cps)).toList = _
    rw [key]; simp
theorem look_list (b : Bool) : (look b).cps.toList = [if b then 9 else 32] := by cases b <;> decide +kernel
theorem rowZs_list {nms : List (Str × Tok)} {rz : List (Bool × Nat)} {i : Nat} {q : Bool × Nat} (h : rz[i]? = some q) : (rowZs nms rz i).cps.toList = (if q.1 then 9 else 32) :: (nms.map (·.1.cps.toList)).getD q.2 [] := by
  unfold rowZs
  rw [h]
  dsimp only
  rw [Str.cps_append, Array.toList_append, look_list, List.getD_eq_getElem?_getD, List.getElem?_map]
  cases nms[q.2]? <;> rfl
theorem rows_flat (nms : List (Str × Tok)) (G : Nat → Str) (rz : List (Bool × Nat)) : (List.range rz.length).flatMap (fun i => (rowZs nms rz i).cps.toList.map G) = (rowText (nms.map (·.1.cps.toList)) rz).map G := by
  have key : ∀ (n : Nat), n ≤ rz.length → (List.range n).flatMap (fun i => (rowZs nms rz i).cps.toList.map G) = (rowText (nms.map (·.1.cps.toList)) (rz.take n)).map G := by
    intro n
    induction n with
    | zero => intro _; rfl
    | succ n ih =>
      intro hn
      obtain ⟨q, hq⟩ : ∃ q, rz[n]? = some q := ⟨_, List.getElem?_eq_getElem hn⟩
      rw [List.range_succ, List.flatMap_append, ih (Nat.le_of_succ_le hn), List.take_add_one, hq]
      unfold rowText
      rw [Option.toList_some, List.flatMap_append, List.map_append]
      simp [rowZs_list hq]
  rw [key _ (Nat.le_refl _), List.take_length]
theorem tell_len (wide : Bool) (c : Nat) : (tell wide c).length ≤ 6 := by
  unfold tell
  cases wide
  · show (tellC c).length ≤ 6
    unfold tellC
    split
    · decide +kernel
    · split
      · decide +kernel
      · split
        · decide +kernel
        · exact (by decide : 1 ≤ 6)
  · show (tellW c).length ≤ 6
    unfold tellW
    split
    · decide +kernel
    · split
      · decide +kernel
      · split
        · decide +kernel
        · split
          · decide +kernel
          · exact (by decide : 1 ≤ 6)
theorem one_eq (c k : Nat) (x : Str) (h : x = ⟨#[k]⟩) : (decide (x = ⟨#[c]⟩)) = decide (c = k) := by
  subst h
  rw [Bool.eq_iff_iff, decide_eq_true_eq, decide_eq_true_eq]
  constructor
  · intro h; injection h with h; injection h with h; injection h with h; exact h.symm
  · rintro rfl; rfl
theorem told_C (c : Nat) (t t1 t2 t3 : Tok) : ∃ t', (valueAt [(Str.ofString "&", Value.str (Str.ofString "&amp;") t1), (Str.ofString "<", Value.str (Str.ofString "&lt;") t2), (Str.ofString "\t", Value.str (Str.ofString "&#x9;") t3)] (⟨#[c]⟩ : Str)).getD (.str ⟨#[c]⟩ t) = .str (tellC c) t' := by
  unfold valueAt tellC
  simp only [List.find?_cons, List.find?_nil, one_eq c 38 _ (show Str.ofString "&" = ⟨#[38]⟩ by decide +kernel), one_eq c 60 _ (show Str.ofString "<" = ⟨#[60]⟩ by decide +kernel), one_eq c 9 _ (show Str.ofString "\t" = ⟨#[9]⟩ by decide +kernel)]
  by_cases h1 : c = 38
  · simp [h1]
  · by_cases h2 : c = 60
    · simp [h2]
    · by_cases h3 : c = 9
      · simp [h3]
      · simp [h1, h2, h3]
theorem told_W (c : Nat) (t t1 t2 t3 t4 : Tok) : ∃ t', (valueAt [(Str.ofString "&", Value.str (Str.ofString "&amp;") t1), (Str.ofString "<", Value.str (Str.ofString "&lt;") t2), (Str.ofString ">", Value.str (Str.ofString "&gt;") t4), (Str.ofString "\t", Value.str (Str.ofString "&#09;") t3)] (⟨#[c]⟩ : Str)).getD (.str ⟨#[c]⟩ t) = .str (tellW c) t' := by
  unfold valueAt tellW
  simp only [List.find?_cons, List.find?_nil, one_eq c 38 _ (show Str.ofString "&" = ⟨#[38]⟩ by decide +kernel), one_eq c 60 _ (show Str.ofString "<" = ⟨#[60]⟩ by decide +kernel), one_eq c 62 _ (show Str.ofString ">" = ⟨#[62]⟩ by decide +kernel), one_eq c 9 _ (show Str.ofString "\t" = ⟨#[9]⟩ by decide +kernel)]
  by_cases h1 : c = 38
  · simp [h1]
  · by_cases h2 : c = 60
    · simp [h2]
    · by_cases h4 : c = 62
      · simp [h4]
      · by_cases h3 : c = 9
        · simp [h3]
        · simp [h1, h2, h3, h4]
theorem rowZs_len {nms : List (Str × Tok)} {rz : List (Bool × Nat)} (hnm : ∀ q ∈ nms, q.1.length ≤ 3) (i : Nat) : (rowZs nms rz i).length ≤ 100 := by
  unfold rowZs
  cases rz[i]? with
  | none => exact (by decide : 0 ≤ 100)
  | some q =>
    dsimp only
    have h2 : (look q.1).length = 1 := by cases q.1 <;> decide +kernel
    rw [Str.length_append, h2]
    cases e : nms[q.2]? with
    | none => exact (by decide : 1 + 0 ≤ 100)
    | some x =>
      have := hnm _ (List.mem_of_getElem? e)
      simp
      omega
theorem strsAre_values : ∀ zs : List (Str × Tok), StrsAre (strValues zs) (zs.map (·.1))
  | [] => .nil
  | (x, t) :: r => .cons x t (strsAre_values r)
theorem rowText_len {nms : List (Str × Tok)} (hnm : ∀ q ∈ nms, q.1.length ≤ 3) : ∀ rz : List (Bool × Nat), (rowText (nms.map (·.1.cps.toList)) rz).length ≤ 4 * rz.length
  | [] => by simp [rowText]
  | q :: r => by
    have ih := rowText_len hnm r
    unfold rowText at ih ⊢
    rw [List.flatMap_cons, List.length_append, List.length_cons, List.length_cons, List.getD_eq_getElem?_getD, List.getElem?_map]
    revert ih
    generalize (List.flatMap _ r).length = bb
    intro ih
    cases e : nms[q.2]? with
    | none => simp; omega
    | some x =>
      have := hnm _ (List.mem_of_getElem? e)
      simp [Str.length] at this ⊢
      omega
theorem tell_sum (wide : Bool) : ∀ l : List Nat, ((l.map (tell wide)).map (·.length)).sum ≤ 6 * l.length
  | [] => by simp
  | c :: r => by
    have ih := tell_sum wide r
    have := tell_len wide c
    simp only [List.map_cons, List.sum_cons, List.length_cons]
    omega
end Mine
theorem Mine.top_off_P2 : True := by
  w_top off
  trivial
section
local macro_rules | `(tactic| walk_at "no word 5 0") => `(tactic| skip)
local macro_rules | `(tactic| walk_at "no word 5 1") => `(tactic| skip)
local macro_rules | `(tactic| walk_at "no word 5 2") => `(tactic| skip)
local macro_rules | `(tactic| walk_at "no word 5 3") => `(tactic| skip)
namespace Mine
local macro_rules | `(tactic| walk_at "ite") => `(tactic| first | with_reducible refine ite_tt ?_ | with_reducible refine ite_ff ?_)
set_option maxRecDepth 100000 in
set_option maxHeartbeats 8000000 in
theorem page_spec (w : World) (wide : Bool) (R : Addr) (rv : List Value) (kr : Nat) (tl : List (Addr × PySem.Obj)) (nms : List (Str × Tok)) (rz : List (Bool × Nat)) (s : Shared) (hR : s.heap.get? R = some (listOf rv.toArray kr)) (htl : ∀ p ∈ tl, s.heap.get? p.1 = some p.2)
    (hrw : TwoAll tl (rowF nms) rv rz) (hn : rz.length ≤ 5) (hnm : ∀ q ∈ nms, q.1.length ≤ 3) : Spec w 148 [.ref R, .bool wide] [] s (fun v nl => nl = [] ∧ ∃ (T : Str) (t : Tok), v = .str T t ∧ T.cps.toList = (rowText (nms.map (·.1.cps.toList)) rz).flatMap (fun c => (tell wide c).cps.toList)) := by
  unfold Spec SpecA
  k_fill
  intro e p loose mean mg mb env outer A₀ base h₀ L m Q E B F X N T hA hf hke hret
  (refine' fn_enterC [] _ B F X N T hA hf hke hret ?k6 ?k7 ?k8 ?k9 ?kB ?kD ?_ ?c2 ?c3 ?c4; (case k6 => k_is); (case k7 => k_is); (case k8 => k_room); (case k9 => exact BindsTo.of_eq rfl); (case kB => exact rfl); (case kD => decide +kernel); (case c2 => exact rfl); (case c3 => exact rfl); (case c4 => exact rfl))
  clear hret F B X N T
  intro g L' h₁ tk' cells' hg F' N' Y' B' X' T' hlt
  k_cells Y'
  simp only [List.cons_append, List.nil_append] at N'
  have hRg : g.get? R = some (listOf rv.toArray kr) := hg _ _ List.not_mem_nil hR
  have htg : ∀ p ∈ tl, g.get? p.1 = some p.2 := fun p hp => hg _ _ List.not_mem_nil (htl p hp)
  (try dsimp only)
  try k_fold
  cases wide
  · lge_go0
    rename Obj.IsDictOf _ _ _ => hdd
    rename _ = Data.cell (some _) => hcd
    rename News _ _ _ _ => N1
    rename Fr _ _ _ _ => F1
    generalize h₁.objs.size = DD at *
    refine comp_two (cl := [("told", L' + 1)]) F1 (rowZs nms rz) (tell false) rz.length rfl (by with_unfolding_all rfl) (by decide) rfl (by decide) (by with_unfolding_all rfl) (by with_unfolding_all rfl) (by with_unfolding_all rfl) (by decide) ?_ (fun _ => by with_unfolding_all rfl) (fun _ _ => by with_unfolding_all rfl)
    lge_go0
    refine ⟨R, rv, _, _, rfl, ⟨_, F1.keep _ _ hRg, rfl, _, rfl⟩, F1, N1, hrw.len, by omega, ?_, ?_, ?_, ?_⟩
    · intro i hi
      exact rowZs_len hnm i
    · intro i v hv
      obtain ⟨q, T, x, z, hq, rfl, hT, ⟨t1, rfl⟩, nm, t2, t3, hnmq, rfl⟩ := hrw.get hv
      refine ⟨T, _, _, rfl, F1.keep _ _ (htg _ hT), fun C s₃ m₃ E' F₃ ha hb => ?_⟩
      refine wpAny_BinOp (comp_local F₃ ha (comp_local F₃ hb (add_str (fun t5 k5 => ?_) ?_) rfl) rfl)
      · refine ⟨⟨t5, ?_⟩, _, _, rfl, fun _ _ h => h⟩
        unfold rowZs
        rw [hq]
        dsimp only
        rw [hnmq]
        rfl
      · have h1 := hnm _ (List.mem_of_getElem? hnmq)
        dsimp only at h1
        have h2 : (look q.1).length = 1 := by cases q.1 <;> decide +kernel
        rw [sizeLine_eq]; omega
    · intro C c t s₃ m₃ E' F₃ hm₃
      refine MethodCall_ (comp_cell (c := L' + 1) (v := .ref DD) ⟨_, F₃.keep _ _ (N1 _ (.tail _ (.head _))).1, hcd⟩ ?_ (by with_unfolding_all rfl) rfl) (by with_unfolding_all rfl)
      have hop := (Heap.dictOf_iff.mpr ⟨_, F₃.keep _ _ (N1 _ (.head _)).1, hdd⟩).mapOf
      refine getMethod_builtin hop.typeIs PySem.F.plainAttrs_dict PySem.F.slot_dict_get PySem.F.type_dict_get hop.noDict ?_
      refine callWith_method1 (spliced_more (comp_local F₃ hm₃ (spliced_more (comp_local F₃ hm₃ (spliced_none ?_) rfl)) rfl))
      refine call_meetsIn PySem.F.slot_dict_get hop.typeIs PySem.F.entry_dict_get (PySem.F.args_dict_get_3 _ _ _) (meets_dict_get_default (strKind _ w) DD (strKind_is _ w _ t) (by assumption) _) ⟨_, hop, ?_⟩
      obtain ⟨t9, h9⟩ := told_C c t _ _ _
      refine ⟨⟨t9, h9⟩, _, _, rfl, fun _ _ h => h⟩
    · rintro D h5 tk5 zs k F5 N5 hzs
      refine spliced_none ?_
      have hlen := rows_flat nms (tell false) rz
      rw [← hzs] at hlen
      refine join_listW (N5.isList (.head _)) (strsAre_values zs) (by decide +kernel) ?_ (fun t6 k6 => ?_)
      · have h1 := tell_sum false (rowText (nms.map (·.1.cps.toList)) rz)
        have h2 := rowText_len hnm rz
        rw [hlen, List.length_map]
        omega
      · exact ⟨_, [], F5, .nil, ⟨rfl, _, t6, rfl, by rw [show Str.ofString "" = ⟨#[]⟩ by decide +kernel, join_empty, hlen, List.flatMap_map]⟩, _, _, rfl⟩
  · lge_go0
    rename Obj.IsDictOf _ _ _ => hdd
    rename _ = Data.cell (some _) => hcd
    rename News _ _ _ _ => N1
    rename Fr _ _ _ _ => F1
    obtain ⟨DD, hDD⟩ := ex_news1 N1
    rw [← hDD] at N1
    replace hcd := hcd.trans (by rw [← hDD])
    refine comp_two (cl := [("told", L' + 1)]) F1 (rowZs nms rz) (tell true) rz.length rfl (by with_unfolding_all rfl) (by decide) rfl (by decide) (by with_unfolding_all rfl) (by with_unfolding_all rfl) (by with_unfolding_all rfl) (by decide) ?_ (fun _ => by with_unfolding_all rfl) (fun _ _ => by with_unfolding_all rfl)
    lge_go0
    refine ⟨R, rv, _, _, rfl, ⟨_, F1.keep _ _ hRg, rfl, _, rfl⟩, F1, N1, hrw.len, by omega, ?_, ?_, ?_, ?_⟩
    · intro i hi
      exact rowZs_len hnm i
    · intro i v hv
      obtain ⟨q, T, x, z, hq, rfl, hT, ⟨t1, rfl⟩, nm, t2, t3, hnmq, rfl⟩ := hrw.get hv
      refine ⟨T, _, _, rfl, F1.keep _ _ (htg _ hT), fun C s₃ m₃ E' F₃ ha hb => ?_⟩
      refine wpAny_BinOp (comp_local F₃ ha (comp_local F₃ hb (add_str (fun t5 k5 => ?_) ?_) rfl) rfl)
      · refine ⟨⟨t5, ?_⟩, _, _, rfl, fun _ _ h => h⟩
        unfold rowZs
        rw [hq]
        dsimp only
        rw [hnmq]
        rfl
      · have h1 := hnm _ (List.mem_of_getElem? hnmq)
        dsimp only at h1
        have h2 : (look q.1).length = 1 := by cases q.1 <;> decide +kernel
        rw [sizeLine_eq]; omega
    · intro C c t s₃ m₃ E' F₃ hm₃
      refine MethodCall_ (comp_cell (c := L' + 1) (v := .ref DD) ⟨_, F₃.keep _ _ (N1 _ (.tail _ (.tail _ (.head _)))).1, hcd⟩ ?_ (by with_unfolding_all rfl) rfl) (by with_unfolding_all rfl)
      have hop := (Heap.dictOf_iff.mpr ⟨_, F₃.keep _ _ (N1 _ (.head _)).1, hdd⟩).mapOf
      refine getMethod_builtin hop.typeIs PySem.F.plainAttrs_dict PySem.F.slot_dict_get PySem.F.type_dict_get hop.noDict ?_
      refine callWith_method1 (spliced_more (comp_local F₃ hm₃ (spliced_more (comp_local F₃ hm₃ (spliced_none ?_) rfl)) rfl))
      refine call_meetsIn PySem.F.slot_dict_get hop.typeIs PySem.F.entry_dict_get (PySem.F.args_dict_get_3 _ _ _) (meets_dict_get_default (strKind _ w) DD (strKind_is _ w _ t) (by rw [hDD]; assumption) _) ⟨_, hop, ?_⟩
      obtain ⟨t9, h9⟩ := told_W c t _ _ _ _
      refine ⟨⟨t9, h9⟩, _, _, rfl, fun _ _ h => h⟩
    · rintro D h5 tk5 zs k F5 N5 hzs
      refine spliced_none ?_
      have hlen := rows_flat nms (tell true) rz
      rw [← hzs] at hlen
      refine join_listW (N5.isList (.head _)) (strsAre_values zs) (by decide +kernel) ?_ (fun t6 k6 => ?_)
      · have h1 := tell_sum true (rowText (nms.map (·.1.cps.toList)) rz)
        have h2 := rowText_len hnm rz
        rw [hlen, List.length_map]
        omega
      · exact ⟨_, [], F5, .nil, ⟨rfl, _, t6, rfl, by rw [show Str.ofString "" = ⟨#[]⟩ by decide +kernel, join_empty, hlen, List.flatMap_map]⟩, _, _, rfl⟩
end Mine
end
theorem Mine.top_off_A1 : True := by
  w_top off
  trivial
section
set_option maxRecDepth 100000
set_option maxHeartbeats 4000000
open Builtin
namespace Mine
noncomputable def makesL (K : Frag) (C : Addr) : Bool := match K.lookup C with
  | some ⟨_, _, .cls cd, sl⟩ => !cd.abstract && !cd.hasDel && (sl.toList[4]?).join == some (.builtin "list.__new__") && !cd.mro.isEmpty && cd.mro.contains (.ref C) && cd.mro.contains (.type "list") &&
      specialIn K (.ref C) "__call__" == some (some (.builtin "type.__call__")) && instIn K (.ref C) (.type "type") == some true
  | _ => false
structure MakesL (M : Model) (h : Heap) (C : Addr) : Prop where
  obj : ∃ oc od cd sl, h.get? C = some ⟨oc, od, .cls cd, sl⟩ ∧ cd.abstract = false ∧ cd.hasDel = false ∧ cd.mro.isEmpty = false
  made : Looks M h (Bind.madeBy (.ref C)) (some "list.__new__")
  base : Looks M h (Bind.staticBase (.ref C)) (.ref C)
  self : Looks M h (isSubtype (.ref C) (.ref C)) true
  top : Looks M h (isSubtype (.ref C) (.type "list")) true
  call : Looks M h (specialOf (.ref C) "__call__") (some (.builtin "type.__call__"))
  typ : Looks M h (isInstance (.ref C) (.type "type")) true
theorem makesL_of {K : Frag} {M : Model} {h : Heap} (X : K.In h) {C : Addr} (e : makesL K C = true) : MakesL M h C := by
  unfold makesL at e
  split at e
  · rename_i oc od cd sl ho
    simp only [Bool.and_eq_true, Bool.not_eq_true', beq_iff_eq] at e
    obtain ⟨⟨⟨⟨⟨⟨⟨e1, e2⟩, e3⟩, e4⟩, e5⟩, e6⟩, e7⟩, e8⟩ := e
    have hc : clsIn K C = some cd := by unfold clsIn; rw [ho]
    have hm : Looks M h (mroOf (.ref C)) cd.mro := (looks_clsIn X hc).andThen .now
    obtain ⟨c, l, hl⟩ : ∃ c l, cd.mro = c :: l := by cases q : cd.mro with | nil => rw [q] at e4; cases e4 | cons c l => exact ⟨c, l, rfl⟩
    have made : Looks M h (Bind.madeBy (.ref C)) (some "list.__new__") := by
      intro A Q E s k q
      unfold Bind.madeBy
      refine wpAny_bind (hm A _ E s k ?_)
      rw [hl, List.forIn_cons]
      refine wpAny_bind (wpAny_bind (wpAny_bind (wpAny_bind (wpAny_loadPart (k _ _ (X _ _ ho)) (wpAny_pure ?_)))))
      dsimp only
      rw [← Array.getElem?_toList, e3]
      exact wpAny_pure (wpAny_pure (wpAny_pure q))
    refine ⟨⟨oc, od, cd, sl, X _ _ ho, e1, e2, e4⟩, made, ?_, looks_mroIn X ?_, looks_mroIn X ?_, looks_specialIn X e7, looks_instIn X e8⟩
    · intro A Q E s k q
      unfold Bind.staticBase
      refine wpAny_bind (hm A _ E s k ?_)
      rw [hl, List.forIn_cons]
      exact wpAny_bind (wpAny_bind (wpAny_bind (made A _ E s k (wpAny_pure (wpAny_pure (wpAny_pure q))))))
    · unfold mroIn; rw [hc, Option.bind_some, if_neg (by rw [e4]; decide), e5]
    · unfold mroIn; rw [hc, Option.bind_some, if_neg (by rw [e4]; decide), e6]
  · cases e
abbrev instL (C dx : Addr) (its : Array Value) (n : Nat) : PySem.Obj := { cls := .ref C, dict := some dx, data := .seq its n }
section
variable {prog : Program} {w : World} {A : Around} {K : Frag} {C : Addr} {R : Result → Shared → Prop} {h : Heap} {g : Array GenState} {d : Drawn} {t : Nat} {os : OsState}
theorem ln_kind : builtinKind "list.__new__" = some .builtinFn := by decide +kernel
theorem ln_split : splitId "list.__new__" = some ("list", "__new__") := by decide +kernel
abbrev lnSig : Manifest.Signature := ⟨.any, "list", "list", .cls, [⟨"args", .varPos, false⟩, ⟨"kwargs", .varKw, false⟩]⟩
theorem ln_row : Manifest.signature? "list.__new__" = some lnSig := by kernel_rfl
theorem ln_args (a : Value) : Bind.checkArgs "list.__new__" lnSig ⟨[a], []⟩ = pure () := by kernel_rfl
theorem new_L (Y : MakesL (model prog w) h C)
    (hq : R (.ok (.ret (.ref (h.objs.size + 1)))) ⟨(h.push emptyDict).push (instL C h.objs.size #[] 0), g, d, t, os⟩) :
    codeAny (model prog w) A (.call (.builtin "list.__new__") ⟨[.ref C], []⟩) R ⟨h, g, d, t, os⟩ := by
  obtain ⟨⟨oc, od, cd, sl, hC, e1, e2, e4⟩, made, base, self, top, call, typ⟩ := Y
  refine codeAny_call_builtin_code (plainId_quiet PySem.F.plain_list_new _) ?_
  simp only [checkBuiltinCall, ln_kind, ln_split, ln_row]
  have here : Looks (model prog w) h (Bind.madeHere "list.__new__" (.ref C)) () := base.andThen (made.andThen (Looks.of_pure (by simp only [Option.map_some, bne_self_eq_false, Bool.false_eq_true, if_false])))
  rw [ln_args]
  repeat (first | simp only [bne_self_eq_false, Bool.false_eq_true, if_false] | lk)
  refine codeAny_builtin_stack PySem.F.entry_list_new rfl fun p st => ?_
  rw [Around.under_plainId PySem.F.plain_list_new _]
  have hown := owner_list_new
  simp only [hown]
  repeat (first | simp only [bne_self_eq_false, Bool.false_eq_true, if_false] | lk)
  refine wpAny_load (Heap.get?_push_of_some _ (Heap.get?_push_of_some _ hC)) (wpAny_pure ?_)
  show wpAny _ _ (if cd.hasDel = true then _ else _) _ _ _
  rw [e2]
  refine wpAny_pure (wpAny_pure ?_)
  show R _ _
  rw [Heap.size_push]
  exact hq
theorem make_L {init : Value} (Y : MakesL (model prog w) h C) (hi : Looks (model prog w) h (typeLookup (.ref C) "__init__") (some init))
    (hb : ∀ self, Looks (model prog w) h (bindSpecial init self) (init, [self]))
    (hq : codeAny (model prog w) (A.under (.builtin "type.__call__" ⟨[.ref C], []⟩)) (.call init ⟨[.ref (h.objs.size + 1)], []⟩) (InitBack (h.objs.size + 1) R) ⟨(h.push emptyDict).push (instL C h.objs.size #[] 0), g, d, t, os⟩) :
    codeAny (model prog w) A (.call (.ref C) ⟨[], []⟩) R ⟨h, g, d, t, os⟩ := by
  have Y' := Y
  obtain ⟨⟨oc, od, cd, sl, hC, e1, e2, e4⟩, made, base, self, top, call, typ⟩ := Y
  refine codeAny_of_tree ?_
  show wpAny _ _ (callAny (.ref C) _) _ _ _
  refine nd_load hC ?_
  show wpAny _ _ (callAny.viaDunder (.ref C) _) _ _ _
  unfold callAny.viaDunder
  refine wpAny_bind (call.at ?_)
  dsimp only
  rw [tc_bind]
  refine wpAny_bind (wpAny_pure (wpAny_bind (wpAny_pure ?_)))
  refine wpAny_pure (a := Fin.again (.call (.builtin "type.__call__") ⟨[.ref C], []⟩)) (And.intro rfl ?_)
  refine codeAny_call_builtin_at (Code.quiet_builtin _ (by decide +kernel)) entry_typeCall (check_slot tc_kind tc_split typ (tc_args _ _ _) ?_)
  unfold Builtin.«type.__call__»
  have hm : Looks (model prog w) h (mroOf (.ref C)) cd.mro := ((Looks.ld (part := none) hC).andThen .now).andThen .now
  repeat (first | simp only [e4, Bool.false_eq_true, if_false] | with_reducible refine wpAny_call ?_ | lk)
  refine new_L Y' ?_
  have k : ∀ b o, h.get? b = some o → ((h.push emptyDict).push (instL C h.objs.size #[] 0)).get? b = some o := fun b o e => Heap.get?_push_of_some _ (Heap.get?_push_of_some _ e)
  have hx : ((h.push emptyDict).push (instL C h.objs.size #[] 0)).get? (h.objs.size + 1) = some (instL C h.objs.size #[] 0) := by heap_get
  have t1 : Looks (model prog w) ((h.push emptyDict).push (instL C h.objs.size #[] 0)) (typeOf (.ref (h.objs.size + 1))) (.ref C) := (Looks.ld hx).andThen .now
  have s1 := self.keeps k
  have i1 := hi.keeps k
  have b1 := (hb (.ref (h.objs.size + 1))).keeps k
  unfold isInstance callSpecial? specialOf
  repeat (first | with_reducible refine wpAny_call ?_ | lk)
  refine codeAny_mono hq fun r s' z => ?_
  rcases r with e | (v | _ | _ | _) <;> first | exact z | exact z.elim | skip
  obtain ⟨rfl, z⟩ := z
  exact wpAny_pure (wpAny_pure z)
end
theorem pile_makes (P : Params) : makesL (hdK.heap_1 P) 122 = true := by kernel_rfl
end Mine
end
theorem Mine.top_off_A2 : True := by
  w_top off
  trivial
section
set_option maxRecDepth 100000
set_option maxHeartbeats 4000000
open Builtin Builtin.ObjectAttr
namespace Mine
noncomputable def overL : List Value → Bool
  | [.ref _, .type a, .type b] => a == "list" && b == "object"
  | _ => false
theorem refuse_L (self : Value) : ∀ {l : List Value}, overL l = true → refuseLoop self "__setattr__" l = pure ()
  | [.ref c, .type a, .type b], e => by
    simp only [overL, Bool.and_eq_true, beq_iff_eq] at e
    obtain ⟨rfl, rfl⟩ := e
    rw [refuseLoop_ref]
    kernel_rfl
section
variable {prog : Program} {w : World} {A : Around} {K : Frag} {C x : Addr} {s : Shared} {h₀ : Heap} {L : Addr} {m : Str → Option Value} {news : List (Addr × PySem.Obj)} {R : Result → Shared → Prop}
noncomputable def plainL (K : Frag) (C : Addr) : Bool := (clsIn K C).any fun cd => overL cd.mro && cd.hasDict
theorem store_L {ox od od' : PySem.Obj} {dx : Addr} {name : Str} {tk : Tok} {v : Value} {pre post : List (Addr × PySem.Obj)} {es : List DictEntry} {n : Nat} (F : Fr h₀ L s.heap m) (N : News h₀ L s.heap (pre ++ (dx, od) :: post)) (X : K.In s.heap)
    (I : InstAt s.heap x ox C (some od)) (hd : ox.dict = some dx) (hp : plainL K C = true) (hobj : mroIn K C (.type "object") = some true) (ht : takerIn K C name = some none)
    (hl : (lookIn name od).isSome = true) (h1 : ∀ p ∈ pre, p.1 ≠ dx) (h2 : ∀ p ∈ post, p.1 ≠ dx)
    (e : Obj.putName name (PyData.keyHash w.params name) (.str name s.toks) v od = od') (e' : od'.data = .dict es.toArray n) (hz : es.length ≤ 1000)
    (h : ∀ h', Fr h₀ L h' m → News h₀ L h' (pre ++ (dx, od') :: post) → R (.ok (.ret .none)) { s with heap := h', toks := s.toks + 1 }) :
    codeAny (model prog w) A (.call (.builtin "object.__setattr__") ⟨[.ref x, .str name tk, v], []⟩) R s := by
  have SF := PySem.F.store_object
  obtain ⟨cd, hc, ho⟩ := any_some hp
  simp only [Bool.and_eq_true] at ho
  obtain ⟨ho, hd'⟩ := ho
  have sub : Looks (model prog w) s.heap (isInstance (.ref x) (.type "object")) true := I.type.andThen (looks_mroIn X hobj)
  obtain ⟨U1, U2⟩ := news_upd (f := Obj.putName name (PyData.keyHash w.params name) (.str name s.toks) v) F N h1 h2 e (by obtain ⟨_, _, dd, _⟩ := od'; cases e'; rfl)
  have D := (N (dx, od) (by simp)).1
  have D' := (U2 (dx, od') (by simp)).1
  refine codeAny_call_builtin SF.slot.plain SF.entry (@check_slot (model prog w) _ _ s "object.__setattr__" "object" "__setattr__" (.ref x) [.str name tk, v] [] _ SF.kind SF.split sub (SF.args (.ref x) (.str name tk) v) ?_)
  obtain ⟨attr, ha, hr⟩ := Option.bind_eq_some_iff.mp ht
  have hm : Looks (model prog w) s.heap (mroOf (.ref C)) cd.mro := (looks_clsIn X hc).andThen .now
  have L3 : Looks (model prog w) s.heap (storeTaker? attr) none := by
    cases attr with
    | none => cases hr; exact .now
    | some a =>
      obtain ⟨b, hb, hbe⟩ := Option.map_eq_some_iff.mp hr
      refine (looks_takesIn X hb).andThen ?_
      cases b
      · exact .now
      · cases hbe
  rw [osa_eq, refuse_eq]
  refine wpAny_bind (wpAny_bind (I.type.here (wpAny_bind (hm.here ?_))))
  rw [refuse_L _ ho]
  refine wpAny_pure (wpAny_bind (I.type.here (wpAny_bind ((looks_findIn X ha).here (wpAny_bind (L3.here ?_))))))
  obtain ⟨hx, hcl, hn, -⟩ := I
  obtain ⟨oc, odi, oda, osl⟩ := ox
  dsimp only at hcl hd
  subst hcl hd
  refine wpAny_bind (wpAny_pure (wpAny_bind (wpAny_bind (wpAny_loadPart hx (wpAny_bind ((looks_clsIn X hc).here ?_))))))
  rw [hd']
  refine wpAny_pure (a := some dx) (wpAny_bind (wpAny_pure (wpAny_bind ?_)))
  unfold nsSet
  refine wpAny_bind (wpAny_bind (wpAny_askSetting (wpAny_pure (wpAny_bind (wpAny_mkText (wpAny_bind (wpAny_loadPart D ?_)))))))
  unfold lookIn at hl
  split at hl
  · rename_i es₀ n₀ q
    rw [q]
    dsimp only
    have c : (!es₀.any (·.key.isStr name) && es₀.any (·.refKey)) = false := by
      rw [← Array.any_toList, ← Array.any_toList]
      split at hl
      · rename_i en he
        rw [List.any_eq_true.mpr ⟨en, List.mem_of_find?_eq_some he, List.find?_some he⟩]; rfl
      · split at hl
        · cases hl
        · rename_i z; rw [Bool.not_eq_true] at z; rw [z, Bool.and_false]
    rw [aRefKeyMayBeTheName_at, c]
    refine wpAny_updatePart D ?_
    refine wpAny_bind (wpAny_lookBehind D' (by rw [e']; exact pastItsLine_dict (by rw [List.size_toArray, sizeLine_eq]; omega)) ?_)
    exact wpAny_pure (h _ U1 U2)
  · cases hl
theorem li_check {self : Value} {Q : Unit → Shared → Prop} {E : Value → Shared → Prop} (hi : Looks (model prog w) s.heap (isInstance self (.type "list")) true) (q : Q () s) :
    wpAny (model prog w) A (checkBuiltinCall "list.__init__" ⟨[self], []⟩) Q E s :=
  check_slot (owner := "list") (n := "__init__") (by decide +kernel) (by decide +kernel) hi (by unfold argsOk; kernel_rfl) q
end
theorem pile_plain (P : Params) : plainL (hdK.heap_1 P) 122 = true := by kernel_rfl
theorem pile_obj (P : Params) : mroIn (hdK.heap_1 P) 122 (.type "object") = some true := by kernel_rfl
theorem pile_list (P : Params) : mroIn (hdK.heap_1 P) 122 (.type "list") = some true := by kernel_rfl
theorem pile_taker (P : Params) : takerIn (hdK.heap_1 P) 122 "_initial_size" = some none := by kernel_rfl
theorem pile_setattr (P : Params) : findIn (hdK.heap_1 P) (.ref 122) "__setattr__" = some (some (.builtin "object.__setattr__")) := by kernel_rfl
theorem pile_init (P : Params) : findIn (hdK.heap_1 P) (.ref 122) "__init__" = some (some (.ref 59)) := by kernel_rfl
end Mine
end
theorem Mine.top_off_A3 : True := by
  w_top off
  trivial
section
set_option maxRecDepth 100000
set_option maxHeartbeats 4000000
open Builtin Builtin.ObjectAttr
namespace Mine
theorem slot_wget : Slot "wrapper_descriptor" "__get__" "wrapper_descriptor.__get__" := .of (owner := "wrapper_descriptor") (n := "__get__") (by rw [typeLookup_type, builtinLookup_eq_fast]; kernel_rfl) (by decide +kernel) (by decide +kernel) (by decide +kernel)
    (by first | exact .inl (by decide +kernel) | exact .inr (by decide +kernel)) (by rw [isSubtype_type]; kernel_rfl)
theorem entry_wget : entryFor table "wrapper_descriptor.__get__" = some Builtin.«wrapper_descriptor.__get__» := entryFor_of_tree (by kernel_rfl)
theorem args_wget (a b c : Value) : argsOk "wrapper_descriptor.__get__" ⟨[a, b, c], []⟩ := by unfold argsOk; kernel_rfl
theorem type_linit : typeOf (.builtin "list.__init__") = pure (.type "wrapper_descriptor") := by show builtinType _ = _; rw [builtinType_eq_fast]; kernel_rfl
section
variable {prog : Program} {w : World} {A : Around} {E : Value → Shared → Prop} {h : Heap} {g : Array GenState} {d : Drawn} {t : Nat} {os : OsState}
theorem owner_linit : ".".intercalate (("list.__init__".cutAt '.').dropLast) = "list" := by decide +kernel
theorem wget_L {x C : Addr} {ox : PySem.Obj} {Q : Fin → Shared → Prop} (hx : h.get? x = some ox) (hc : ox.cls = .ref C) (hi : Looks (model prog w) h (isSubtype (.ref C) (.type "list")) true)
    (hq : Q (.done (.ret (.ref h.objs.size))) ⟨h.push { cls := .type "method-wrapper", data := .fields #[.builtin "list.__init__", .ref x] }, g, d, t, os⟩) :
    wpAny (model prog w) A (Builtin.«wrapper_descriptor.__get__» ⟨[.builtin "list.__init__", .ref x, .ref C], []⟩) Q E ⟨h, g, d, t, os⟩ := by
  have hi' : Looks (model prog w) h (isSubtype (.ref C) (.type (".".intercalate (("list.__init__".cutAt '.').dropLast)))) true := by rw [owner_linit]; exact hi
  obtain ⟨oc, od, oda, osl⟩ := ox
  dsimp only at hc
  subst hc
  clear hi
  unfold Builtin.«wrapper_descriptor.__get__»
  repeat (first | exact hq | lk)
theorem own_linit : classOwn (.type "list") "__init__" = pure (some (.builtin "list.__init__")) := by kernel_rfl
theorem alongL (K : Frag) : alongIn K "__init__" [.type "list", .type "object"] = some (some (.builtin "list.__init__")) := by kernel_rfl
theorem super_ga_L {so D x C : Addr} {ox : PySem.Obj} {l₀ : List Value} {K : Frag} {tk : Tok} {Q : Fin → Shared → Prop}
    (hso : h.get? so = some { cls := .type "super", dict := none, data := .fields #[.ref D, .ref x, .ref C], slots := #[] }) (hno : Looks (model prog w) h (opaqueClassAbove (.ref C)) none)
    (hC : Looks (model prog w) h (mroOf (.ref C)) l₀) (hl : (l₀.dropWhile (· != .ref D)).drop 1 = [.type "list", .type "object"]) (X : K.In h)
    (hx : h.get? x = some ox) (hc : ox.cls = .ref C) (hi : Looks (model prog w) h (isSubtype (.ref C) (.type "list")) true) (hxC : x ≠ C)
    (hq : Q (.done (.ret (.ref h.objs.size))) ⟨h.push { cls := .type "method-wrapper", data := .fields #[.builtin "list.__init__", .ref x] }, g, d, t, os⟩) :
    wpAny (model prog w) A (Builtin.«super.__getattribute__» ⟨[.ref so, .str "__init__" tk], []⟩) Q E ⟨h, g, d, t, os⟩ := by
  have hn : (("__init__" : Str) == ("__class__" : Str)) = false := by decide +kernel
  have hne : (Value.ref x == Value.ref C) = false := by simp [hxC]
  have hdt : ({ cls := .type "super", dict := none, data := .fields #[.ref D, .ref x, .ref C], slots := #[] } : PySem.Obj).data = .fields #[.ref D, .ref x, .ref C] := rfl
  have f0 : (#[.ref D, .ref x, .ref C] : Array Value)[0]? = some (.ref D) := rfl
  have f1 : (#[.ref D, .ref x, .ref C] : Array Value)[1]? = some (.ref x) := rfl
  have f2 : (#[.ref D, .ref x, .ref C] : Array Value)[2]? = some (.ref C) := rfl
  have hlk := slot_wget.lookup
  have hty := type_linit
  have hT : (⟨h, g, d, t, os⟩ : Shared).TypeIs (.builtin "list.__init__") "wrapper_descriptor" := hty
  have hf := alongL K
  unfold Builtin.«super.__getattribute__»
  iterate 22 (first
    | (with_reducible refine wpAny_field hso hdt f0 ?_) | (with_reducible refine wpAny_field hso hdt f1 ?_) | (with_reducible refine wpAny_field hso hdt f2 ?_)
    | (with_reducible refine ks_wpAny_notOpaque hno ?_)
    | (with_reducible refine Looks.at hC ?_; rw [hl])
    | (refine ks_forIn_along X (fun _ _ => rfl) rfl ?_ hf)
    | (with_reducible refine wpAny_typeOf hT ?_)
    | (with_reducible refine wpAny_call_entry slot_wget hT entry_wget ?_ (args_wget _ _ _))
    | (with_reducible refine ⟨_, rfl, ?_⟩)
    | (simp only [hn, hne, Bool.or_false, Bool.false_eq_true, if_false])
    | wp_step
    | dsimp only)
  refine wpAny_bind ?_
  rw [List.forIn_cons]
  refine wpAny_bind (wpAny_bind (wpAny_of_eq own_linit ?_))
  dsimp only
  refine wpAny_bind (wpAny_typeOf hT (wpAny_bind (wpAny_of_eq hlk ?_)))
  dsimp only
  refine wpAny_bind (wpAny_holding (wpAny_call_entry slot_wget hT entry_wget ?_ (args_wget _ _ _)))
  refine wget_L hx hc hi ?_
  refine ⟨_, rfl, ?_⟩
  repeat (first | exact hq | lk)
end
end Mine
end
theorem Mine.top_off_A4 : True := by
  w_top off
  trivial
section
set_option maxRecDepth 100000
set_option maxHeartbeats 4000000
open Builtin Builtin.ObjectAttr
namespace Mine
section
variable {prog : Program} {w : World} {A : Around} {E : Value → Shared → Prop} {h : Heap} {g : Array GenState} {d : Drawn} {t : Nat} {os : OsState}
theorem getMethod_super_L {so D x C : Addr} {ox : PySem.Obj} {l₀ : List Value} {K : Frag} {pl : Sem Bool} {Q : Value × List Value → Shared → Prop}
    (hso : h.get? so = some { cls := .type "super", dict := none, data := .fields #[.ref D, .ref x, .ref C], slots := #[] }) (hno : Looks (model prog w) h (opaqueClassAbove (.ref C)) none)
    (hC : Looks (model prog w) h (mroOf (.ref C)) l₀) (hl : (l₀.dropWhile (· != .ref D)).drop 1 = [.type "list", .type "object"]) (X : K.In h)
    (hx : h.get? x = some ox) (hc : ox.cls = .ref C) (hi : Looks (model prog w) h (isSubtype (.ref C) (.type "list")) true) (hxC : x ≠ C)
    (hq : Q (.ref h.objs.size, []) ⟨h.push { cls := .type "method-wrapper", data := .fields #[.builtin "list.__init__", .ref x] }, g, d, t + 1, os⟩) :
    wpAny (model prog w) A (getMethod (.ref so) "__init__" pl) Q E ⟨h, g, d, t, os⟩ := by
  have hlk := PySem.F.ks_slot_super_ga.lookup
  have hcan := PySem.F.ks_canon_super_ga
  have hT : ∀ t', (⟨h, g, d, t', os⟩ : Shared).TypeIs (.ref so) "super" := fun _ => ⟨_, hso, rfl⟩
  unfold getMethod
  refine wpAny_bind (wpAny_specialOf (hT _) hlk ?_)
  show wpAny _ _ (if (Manifest.canonical "super.__getattribute__" != "object.__getattribute__") = true then _ else _) _ _ _
  rw [if_pos hcan]
  unfold getAttr getAttrBy
  refine wpAny_bind (wpAny_bind (wpAny_mkText (wpAny_holding (wpAny_bind (wpAny_typeOf (hT _) (wpAny_bind (wpAny_of_eq hlk ?_)))))))
  show wpAny _ _ (getAttrByItsOwn (.ref so) (.str "__init__" t) (.type "super") (.builtin "super.__getattribute__") true false) _ _ _
  unfold getAttrByItsOwn hookBefore callGetattribute boundAndCalled
  refine wpAny_bind (wpAny_of_eq (show (if onTheHeap (.type "super") then typeLookup (.type "super") "__getattr__" else pure none) = pure none from rfl) ?_)
  refine wpAny_bind (wpAny_attempt (wpAny_holding ?_))
  show wpAny _ _ (bindSpecial (.builtin "super.__getattribute__") (.ref so) >>= _) _ _ _
  refine wpAny_bind (wpAny_of_eq (PySem.F.ks_slot_super_ga.bind _) ?_)
  refine wpAny_mono (Q := fun v s' => v = .ref h.objs.size ∧ s' = ⟨h.push { cls := .type "method-wrapper", data := .fields #[.builtin "list.__init__", .ref x] }, g, d, t + 1, os⟩) (E := fun _ _ => False)
    (wpAny_call_entry PySem.F.ks_slot_super_ga (hT _) PySem.F.ks_entry_super_ga (super_ga_L hso hno hC hl X hx hc hi hxC ⟨_, rfl, rfl, rfl⟩) (PySem.F.ks_gaArgs_super _ _)) (fun v s' hv => ?_) fun _ _ z => z.elim
  obtain ⟨rfl, rfl⟩ := hv
  exact wpAny_pure (wpAny_pure hq)
theorem call_wrapper {b x C dx : Addr} {n : Nat} {R : Result → Shared → Prop} (hb : h.get? b = some { cls := .type "method-wrapper", dict := none, data := .fields #[.builtin "list.__init__", .ref x], slots := #[] })
    (hx : h.get? x = some (instL C dx #[] n)) 
    (hq : ∀ h', h'.get? x = some (instL C dx #[] n) → Heap.SameBut x h h' → R (.ok (.ret .none)) ⟨h', g, d, t, os⟩) :
    codeAny (model prog w) A (.call (.ref b) ⟨[], []⟩) R ⟨h, g, d, t, os⟩ := by
  refine codeAny_of_tree ?_
  show wpAny _ A.in1 (callAny (.ref b) _) _ _ _
  unfold callAny
  refine wpAny_bind (wpAny_load hb ?_)
  refine wpAny_bind (wpAny_of_eq (show checkBoundCall "list.__init__" ⟨[.ref x], []⟩ = pure () by kernel_rfl) (wpAny_pure ⟨Code.quiet_builtin _ (by decide +kernel), codeAny_builtin PySem.F.entry_list_init ?_⟩))
  unfold Builtin.«list.__init__» Builtin.List.listItems Builtin.List.listUpdate
  repeat lk
  refine wpAny_update hx ?_
  have hU := Heap.get?_update_self (Obj.mapSeq fun _ => #[]) hx rfl
  refine wpAny_lookBehind hU (by rfl) ?_
  refine wpAny_bind (wpAny_pure (wpAny_pure ?_))
  exact hq _ hU (Heap.SameBut.update ..)
end
end Mine
end
theorem Mine.top_off_A5 : True := by
  w_top off
  trivial
namespace Mine
noncomputable def pileDict (P : Params) (tk t : Tok) : PySem.Obj := Obj.putName "_initial_size" (PyData.keyHash P "_initial_size") (.str "_initial_size" tk) (.int 0 t) emptyDict
theorem pile_mro0 (P : Params) : (clsIn (hdK.heap_1 P) 122).map (·.mro) = some [.ref 122, .type "list", .type "object"] := by kernel_rfl
theorem pile_mro (P : Params) : ∃ cd, clsIn (hdK.heap_1 P) 122 = some cd ∧ cd.mro = [.ref 122, .type "list", .type "object"] := Option.map_eq_some_iff.mp (pile_mro0 P)
theorem callWith_wrapper {prog : Program} {w : World} {A : Around} {E : Value → Shared → Prop} {h : Heap} {g : Array GenState} {d : Drawn} {t : Nat} {os : OsState} {b x : Addr} {pos : Pos} {Q : Value → Shared → Prop}
    (hb : h.get? b = some { cls := .type "method-wrapper", dict := none, data := .fields #[.builtin "list.__init__", .ref x], slots := #[] })
    (hq : codeAny (model prog w) A (.call (.ref b) ⟨[], []⟩) (fun r s' => match r with | .ok (.ret v) => Q v s' | .ok _ => False | .error e => E e s') ⟨h, g, d, t, os⟩) : wpAny (model prog w) A (callWith pos (.ref b) [] [] []) Q E ⟨h, g, d, t, os⟩ := by
  unfold callWith
  refine wpAny_bind (wpAny_holding (wpAny_of_eq (show evalArgs (.ref b) true [] [] = pure ⟨[], []⟩ from rfl) ?_))
  refine wpAny_bind (wpAny_standAt ?_)
  dsimp only
  unfold keeperOf
  repeat (first | with_reducible refine wpAny_call ?_ | lk)
  refine codeAny_mono hq fun r s' z => ?_
  rcases r with e | (v | _ | _ | _) <;> first | exact z | exact z.elim | skip
  exact wpAny_bind (wpAny_holding (wpAny_point (wpAny_pure z)))
set_option maxRecDepth 100000 in
set_option maxHeartbeats 8000000 in
theorem pile_make (w : World) (s : Shared) (e : Env) : ∀ (p : Program) (loose : List Str) (mean : ExcName → Option Value) (mg mb : Str → Option Value) (env : Env) (outer : List Env) (A₀ : Around) (base h₀ : Heap) (L : Addr) (m : Str → Option Value) (news : List (Addr × PySem.Obj)) (Q E : Value → Shared → Prop),
    Below A₀ base outer h₀ → Fr h₀ L s.heap m → (hdK.heap_1 w.params).In h₀ → News h₀ L s.heap news → Top p loose mean mg mb h₀ → (callerA.deeper e).frames = some (env :: outer) → env.frame = some L → env.scope.kind = .function →
    (∀ x dx h' tk' t1 t2, Fr h₀ L h' m → News h₀ L h' ((x, instL 122 dx #[] 0) :: (dx, pileDict w.params t1 t2) :: news) → (∀ p ∈ news, p.1 < dx) → @LT.lt Nat _ dx x → Q (.ref x) { s with heap := h', toks := tk' }) →
    wpAny (model PySem.Challenge.rw_xo0027_01.row.prog w) (callerA.deeper e) (call (.ref 122) []) Q E s := by
  k_fill
  intro p loose mean mg mb env outer A₀ base h₀ L m news Q E B F X N T hA hf hke hret
  refine wpAny_call ?_
  obtain ⟨hh, g, d, t, os⟩ := s
  have X1 := X.keeps F.keep
  refine make_L (init := .ref 59) (makesL_of X1 (pile_makes _)) (looks_findIn X1 (pile_init _)) (fun self => bind_fn X1 self (by k_is)) ?_
  have N1 := (N.push F emptyDict).push (F.push _) (instL 122 hh.objs.size #[] 0)
  have F1 := (F.push emptyDict).push (instL 122 hh.objs.size #[] 0)
  have hlt : ∀ p ∈ news, @LT.lt Nat _ p.1 hh.objs.size := fun p hp => Heap.lt_size (N p hp).1
  rw [Heap.size_push] at N1
  generalize hdx : hh.objs.size = dx at *
  generalize hhb : (hh.push emptyDict).push (instL 122 dx #[] 0) = hb at *
  refine' ks_code_super B (s := ⟨hb, g, d, t, os⟩) F1 X N1 T ?kA hf hke ?k6 ?k7 ?k8 ?k9 ?kB ?_ ?c1 ?c2 ?c3 ?c4
  case kA => exact hA
  case k6 => k_is
  case k7 => k_is
  case k8 => k_room
  case k9 => exact BindsTo.of_defaults rfl ((X.keeps F1.keep) 51 { cls := .type "tuple", data := .seq #[.int 0 233] } (by kernel_rfl)) rfl rfl rfl
  case kB => exact locs rfl
  case c1 => decide
  case c2 => exact rfl
  case c3 => exact rfl
  case c4 => exact rfl
  intro g' L' h' FG' F' N' B' X' T' l1
  dsimp only
  have hIn : ∀ {h'' : Heap} {m''}, Fr g' L' h'' m'' → (hdK.heap_1 w.params).In h'' := fun F'' => X'.keeps F''.keep
  refine ks_wpAt_execs_cons (ks_wpAt_Assign_Attr (wpAt_of_wpAny ?_))
  refine wpAny_Name (wpAny_loadName_local (v := .int 0 233) rfl (by with_unfolding_all rfl) F'.ns (by with_unfolding_all rfl) ?_) (by decide)
  refine wpAny_Name (wpAny_loadName_local (v := .ref (dx + 1)) rfl (by with_unfolding_all rfl) F'.ns (by with_unfolding_all rfl) ?_) (by decide)
  have hne1 : ∀ p ∈ [(dx + 1, instL 122 dx #[] 0)], p.1 ≠ dx := fun p hp => by rw [List.mem_singleton.mp hp]; exact Nat.succ_ne_self _
  have hne2 : ∀ p ∈ news, p.1 ≠ dx := fun p hp => Nat.ne_of_lt (hlt p hp)
  have hI : InstAt h' (dx + 1) (instL 122 dx #[] 0) 122 (some emptyDict) := ⟨(N' _ (.head _)).1, rfl, rfl, (N' _ (.tail _ (.head _))).1⟩
  refine set_plain (hIn F') hI (pile_setattr _) (store_L (pre := [(dx + 1, instL 122 dx #[] 0)]) (post := news) (es := [⟨PyData.keyHash w.params "_initial_size", .str "_initial_size" _, .int 0 233⟩]) (n := 1) F' N' (hIn F') hI rfl (pile_plain _) (pile_obj _) (pile_taker _) (by decide +kernel) hne1 hne2 (rfl : _ = pileDict w.params _ 233) rfl (Nat.le_of_ble_eq_true rfl) fun h2 F2 N2 => ?_)
  dsimp only
  have hI2 : InstAt h2 (dx + 1) (instL 122 dx #[] 0) 122 (some (pileDict w.params _ 233)) := ⟨(N2 _ (.head _)).1, rfl, rfl, (N2 _ (.tail _ (.head _))).1⟩
  refine ks_wpAt_execs_cons (ks_wpAt_Expr_any (ks_wpAt_MethodCall ?_ (by with_unfolding_all rfl)) ?_)
  · refine' ks_node F2 X' N2 T' ?n1 ?n2 ?n3 hI2 ?n4 ?n5 ?n6 ?n7 ?n8 ?n9 ?n10 ?n11 ?n12 ?n13 ?n14 ?n15 ?n16 ?n17 ?_
    case n1 => k_is
    case n2 => exact rfl
    case n3 => with_unfolding_all rfl
    case n4 => k_is
    case n5 => exact rfl
    case n6 => decide +kernel
    case n7 => k_is
    case n8 => k_is
    case n9 => exact by k_is
    case n10 => k_is
    case n11 => decide
    case n12 => exact rfl
    case n13 => exact rfl
    case n14 => exact rfl
    case n15 => exact rfl
    case n16 => decide +kernel
    case n17 => decide +kernel
    intro so h3 F3 N3 l3
    obtain ⟨cd, hc, hmro⟩ := pile_mro w.params
    have hI3 : InstAt h3 (dx + 1) (instL 122 dx #[] 0) 122 (some (pileDict w.params _ 233)) := ⟨(N3 _ (.tail _ (.head _))).1, rfl, rfl, (N3 _ (.tail _ (.tail _ (.head _)))).1⟩
    refine getMethod_super_L (K := hdK.heap_1 w.params) (l₀ := cd.mro) (N3 _ (.head _)).1 (looks_opaque (hIn F3) (by k_is)) ((looks_clsIn (hIn F3) hc).andThen .now) (by rw [hmro]; rfl) (hIn F3) (N3 _ (.tail _ (.head _))).1 rfl (looks_mroIn (hIn F3) (pile_list _)) (ks_ne (hIn F3) hI3 hc) ?_
    dsimp only
    have F4 := F3.push { cls := .type "method-wrapper", data := .fields #[.builtin "list.__init__", .ref (dx + 1)] }
    have N4 := N3.push F3 { cls := .type "method-wrapper", data := .fields #[.builtin "list.__init__", .ref (dx + 1)] }
    refine callWith_wrapper (N4 _ (.head _)).1 (call_wrapper (N4 _ (.head _)).1 (N4 _ (.tail _ (.tail _ (.head _)))).1 fun h5 hx5 hs5 => ?_)
    have k5 : ∀ b o, (h3.push { cls := .type "method-wrapper", data := .fields #[.builtin "list.__init__", .ref (dx + 1)] }).get? b = some o → h5.get? b = some o := fun b o eb => by
      by_cases hb : b = dx + 1
      · subst hb
        have := (N4 _ (.tail _ (.tail _ (.head _)))).1
        dsimp only at this
        rw [this] at eb
        rw [← Option.some.inj eb]
        exact hx5
      · exact hs5.extBut b o hb eb
    refine wpAt_of_wpAny (wpAny_execs_nil ⟨L', _, (dx + 1, instL 122 dx #[] 0) :: (dx, pileDict w.params _ 233) :: news, F4.kept k5, fun p hp => ⟨k5 _ _ (N4 p (.tail _ (.tail _ hp))).1, (N4 p (.tail _ (.tail _ hp))).2⟩, fun kF kN => ⟨rfl, hret _ _ _ _ _ _ kF kN hlt (Nat.lt_succ_self _)⟩⟩)
  · exact rfl
end Mine
theorem Mine.top_off_A6 : True := by
  w_top off
  trivial
section
set_option maxRecDepth 100000
set_option maxHeartbeats 4000000
open Builtin
namespace Mine
section
variable {prog : Program} {w : World} {A : Around} {E : Value → Shared → Prop} {s : Shared} {K : Frag} {C x : Addr} {ox : PySem.Obj} {od : Option PySem.Obj}
theorem method_L {name : Str} {id : String} {pl : Sem Bool} {Q : Value × List Value → Shared → Prop} (X : K.In s.heap) (I : InstAt s.heap x ox C od) (hga : findIn K (.ref C) "__getattribute__" = some (some (.builtin "list.__getattribute__"))) (hk : findIn K (.ref C) "__getattr__" = some none)
    (hf : findIn K (.ref C) name = some (some (.builtin id))) (ht : typeOf (.builtin id) = pure (.type "method_descriptor")) (hs : shadowIn od name = some false) (h : Q (.builtin id, [.ref x]) s) :
    wpAny (model prog w) A (getMethod (.ref x) name pl) Q E s := by
  have hcan : Manifest.canonical "list.__getattribute__" = "object.__getattribute__" := by decide +kernel
  unfold getMethod specialOf
  refine wpAny_bind (wpAny_bind (I.type.here ((looks_findIn X hga).here ?_)))
  dsimp only
  rw [hcan, if_neg (by decide)]
  refine wpAny_bind (wpAny_bind (I.type.here ((looks_findIn X hk).here ?_)))
  refine wpAny_bind (wpAny_bind (I.type.here ((looks_findIn X hf).here (wpAny_bind (wpAny_of_eq ht ?_)))))
  rw [if_neg (by decide +kernel)]
  refine wpAny_bind (wpAny_loadPart I.at_ ?_)
  have hd := I.dict
  cases e : ox.dict with
  | none => exact wpAny_bind (wpAny_rule (wpAny_pure h))
  | some dx =>
    cases od with
    | none => rw [e] at hd; exact hd.elim
    | some o =>
      rw [e] at hd
      obtain ⟨r, a, b⟩ := Option.map_eq_some_iff.mp hs
      refine wpAny_bind (wpAny_bind (wpAny_loadPart hd ?_))
      rw [nsLook_of a]
      refine wpAny_pure ?_
      rw [b]
      exact wpAny_bind (wpAny_rule (wpAny_pure h))
theorem append_L {h : Heap} {g : Array GenState} {d : Drawn} {t : Nat} {os : OsState} {dx : Addr} {its : Array Value} {n : Nat} {v : Value} {Q : Value → Shared → Prop} (hx : h.get? x = some (instL C dx its n)) (hi : Looks (model prog w) h (isSubtype (.ref C) (.type "list")) true) (hz : its.size ≤ sizeLine)
    (hq : ∀ h', h'.get? x = some (instL C dx (its.push v) (n + 1)) → Heap.SameBut x h h' → Q .none ⟨h', g, d, t, os⟩) :
    wpAny (model prog w) A (call (.builtin "list.append") [.ref x, v]) Q E ⟨h, g, d, t, os⟩ := by
  refine wpAny_call (codeAny_call_builtin_code (Code.quiet_builtin _ (by decide +kernel)) ?_)
  have hkind : builtinKind "list.append" = some .method := by decide +kernel
  have hsplit : splitId "list.append" = some ("list", "append") := by decide +kernel
  simp only [checkBuiltinCall, hkind, hsplit]
  have t1 : Looks (model prog w) h (typeOf (.ref x)) (.ref C) := (Looks.ld hx).andThen .now
  unfold isInstance
  repeat lk
  refine codeAny_builtin entry_list_append ?_
  show wpAny _ _ (updateSeq x (·.push v) >>= fun _ => ret .none) _ _ _
  refine wpAny_bind (wpAny_updateSeq hx rfl (wpAny_pure ?_) hz (by rw [Array.size_push]; omega))
  refine hq _ ?_ (Heap.SameBut.update ..)
  rw [Heap.get?_update_self _ hx (by rfl)]
  unfold Obj.mapSeq
  simp
end
theorem pile_ga (P : Params) : findIn (hdK.heap_1 P) (.ref 122) "__getattribute__" = some (some (.builtin "list.__getattribute__")) := by kernel_rfl
theorem pile_getattr (P : Params) : findIn (hdK.heap_1 P) (.ref 122) "__getattr__" = some none := by kernel_rfl
theorem pile_append (P : Params) : findIn (hdK.heap_1 P) (.ref 122) "append" = some (some (.builtin "list.append")) := by kernel_rfl
theorem type_append : typeOf (.builtin "list.append") = pure (.type "method_descriptor") := by show builtinType _ = _; rw [builtinType_eq_fast]; kernel_rfl
theorem pile_shadow (P : Params) (t1 t2 : Tok) : shadowIn (some (pileDict P t1 t2)) "append" = some false := by kernel_rfl
end Mine
end
theorem Mine.top_off_A7 : True := by
  w_top off
  trivial
namespace Mine
set_option maxRecDepth 100000 in
set_option maxHeartbeats 8000000 in
theorem push_specA (w : World) (x dx : Addr) (its : Array Value) (n : Nat) (t1 t2 : Tok) (y z : Value) (s : Shared) (A : Around) (hroom : A.depth < recursionLimit) (hz : its.size ≤ 1000) (hdx : dx ≠ x) :
    SpecA w A 66 [.ref x, y, z] [(x, instL 122 dx its n), (dx, pileDict w.params t1 t2)] s (fun v nl => ∃ T : Addr, v = .none ∧ nl = [(T, tupO y z), (x, instL 122 dx (its.push (.ref T)) (n + 1)), (dx, pileDict w.params t1 t2)]) := by
  unfold SpecA
  k_fill
  intro p loose mean mg mb env outer A₀ base h₀ L m Q E B F X N T hA hf hke hret
  (refine' fn_enter _ _ B F X N T hA hf hke hret ?k6 ?k7 hroom ?k9 ?kB ?_ ?c2 ?c3 ?c4 ?c5; (case k6 => k_is); (case k7 => k_is); (case k9 => exact BindsTo.of_eq rfl); (case c5 => decide); (case kB => exact locs rfl); (case c2 => exact rfl); (case c3 => exact rfl); (case c4 => exact rfl))
  clear hret F B X N T
  intro g L' h₁ hg F' N' B' X' T' hlt
  (try dsimp only)
  try k_fold
  have hI : ∀ {h m l}, Fr g L' h m → News g L' h ((x, instL 122 dx its n) :: (dx, pileDict w.params t1 t2) :: l) → InstAt h x (instL 122 dx its n) 122 (some (pileDict w.params t1 t2)) := fun _ N => ⟨(N _ (.head _)).1, rfl, rfl, (N _ (.tail _ (.head _))).1⟩
  lgec_go
  refine method_L (X'.keeps F'.keep) (hI F' N') (pile_ga _) (pile_getattr _) (pile_append _) type_append (pile_shadow _ _ _) ?_
  lge_go0
  rename Fr _ _ _ _ => F1
  rename News _ _ _ _ => N1
  obtain ⟨T, hT⟩ := ex_news1 N1
  subst hT
  replace N1 : News g L' _ [(T, tupO y z), (x, instL 122 dx its n), (dx, pileDict w.params t1 t2)] := N1
  refine append_L (N1 _ (.tail _ (.head _))).1 (looks_mroIn (X'.keeps F1.keep) (pile_list _)) (by rw [sizeLine_eq]; omega) fun h2 hx2 hs2 => ?_
  have hTx : T ≠ x := two_off N1 (.head _) (.tail _ (.head _)) (fun e => nomatch e)
  have zx := N1 _ (.tail _ (.head _))
  have F2 := F1.change hs2 zx.2.1 zx.2.2
  have N2 := news_set (pre := [(T, tupO y z)]) (post := [(dx, pileDict w.params t1 t2)]) N1 (fun p hp => by rw [List.mem_singleton.mp hp]; exact hTx) (fun p hp => by rw [List.mem_singleton.mp hp]; exact hdx) hs2 hx2
  lge_go0
  exact ⟨_, _, F2, N2, ⟨T, rfl, rfl⟩, _, _, rfl⟩
end Mine
theorem Mine.top_off_A9 : True := by
  w_top off
  trivial
section
set_option maxRecDepth 100000
set_option maxHeartbeats 4000000
open Builtin
namespace Mine
section
variable {prog : Program} {w : World} {A : Around} {E : Value → Shared → Prop} {K : Frag} {C x sl : Addr} {h : Heap} {g : Array GenState} {d : Drawn} {t : Nat} {os : OsState} {dx : Addr} {its : Array Value} {n : Nat}
theorem gi_kind : builtinKind "list.__getitem__" = some .method := by decide +kernel
theorem gi_split : splitId "list.__getitem__" = some ("list", "__getitem__") := by decide +kernel
theorem gi_bind (self : Value) : bindSpecial (.builtin "list.__getitem__") self = pure (.builtin "list.__getitem__", [self]) := slot_list_getitem.bind self
theorem slice_L {t0 : Tok} {Q : Value → Shared → Prop} (X : K.In h) (hx : h.get? x = some (instL C dx its n)) (hi : mroIn K C (.type "list") = some true) (hg : findIn K (.ref C) "__getitem__" = some (some (.builtin "list.__getitem__")))
    (hs : h.IsSliceOf sl (.int 0 t0) .none .none) (hz : its.size ≤ sizeLine) (hno : noSeq K C = true)
    (hq : Q (.ref h.objs.size) ⟨h.push (listOf its 0), g, d, t, os⟩) : wpAny (model prog w) A (getItem (.ref x) (.ref sl)) Q E ⟨h, g, d, t, os⟩ := by
  have t1 : Looks (model prog w) h (typeOf (.ref x)) (.ref C) := (Looks.ld hx).andThen .now
  have l1 := looks_findIn (M := model prog w) X hg
  have i1 := looks_mroIn (M := model prog w) X hi
  have b1 := gi_bind (.ref x)
  obtain ⟨osl, hos, hcs, hds⟩ := id hs
  have hTs : (⟨h, g, d, t, os⟩ : Shared).TypeIs (.ref sl) "slice" := ⟨osl, hos, hcs⟩
  unfold getItem sequenceKey
  refine wpAny_holding (wpAny_bind (wpAny_bind (t1.here ?_)))
  refine wpAny_bind ((anyM_none X hno).here ?_)
  rw [if_pos (show (!false) = true from rfl)]
  refine wpAny_pure (wpAny_bind ?_)
  unfold callSpecial? specialOf
  refine wpAny_bind (wpAny_bind (t1.here (l1.here ?_)))
  dsimp only
  refine wpAny_holding (wpAny_bind (wpAny_of_eq b1 ?_))
  dsimp only
  refine wpAny_bind (wpAny_call (codeAny_call_builtin_code (Code.quiet_builtin _ (by decide +kernel)) ?_))
  simp only [checkBuiltinCall, gi_kind, gi_split]
  unfold isInstance
  repeat lk
  refine codeAny_builtin entry_list_getitem ?_
  show wpAny _ _ (Builtin.List.listSubscript? (.ref sl) >>= _) _ _ _
  refine wpAny_bind ?_
  unfold Builtin.List.listSubscript?
  refine wpAny_bind (wpAny_specialOf hTs slice_no_index ?_)
  simp only [Option.isNone_none, if_true]
  refine wpAny_pure ?_
  show wpAny _ _ (typeOf (.ref sl) >>= _) _ _ _
  refine wpAny_bind (wpAny_typeOf hTs ?_)
  rw [if_neg (by decide)]
  rw [listSliceParts_eq]
  refine wpAny_bind (wpAny_bind (wpAny_field hos hds (x := .none) rfl (wpAny_bind (wpAny_listPart .none ?_))))
  rw [if_neg (by exact Bool.false_ne_true)]
  refine wpAny_bind (wpAny_field hos hds (x := .int 0 t0) rfl (wpAny_bind (wpAny_listPart (.int 0 t0) ?_)))
  refine wpAny_bind (wpAny_field hos hds (x := .none) rfl (wpAny_bind (wpAny_listPart .none (wpAny_pure ?_))))
  refine wpAny_bind (m := Builtin.List.listItems (.ref x)) ?_
  unfold Builtin.List.listItems
  refine wpAny_bind (wpAny_seqItems hx rfl (wpAny_pure ?_))
  refine wpAny_bind (wpAny_of_eq (sliceIndices_raw (some 0) none none its.size (by decide)) ?_)
  refine wpAny_bind (wpAny_newObj_type (wpAny_pure ?_) (Nat.le_trans (slicePick_size_le its (some 0) none none) hz))
  refine wpAny_pure (wpAny_pure ?_)
  have e : slicePick its (some 0) none none = its := by
    have := slicePick_from' its 0
    simpa using this
  have hq' : Q (.ref h.objs.size) ⟨h.push (listOf (slicePick its (some 0) none none) 0), g, d, t, os⟩ := by rw [e]; exact hq
  exact hq'
theorem tail_L {value slice : PySem.Expr} {t0 : Tok} {Q : Value → Shared → Prop} (X : K.In h) (hx : h.get? x = some (instL C dx its n)) (hi : mroIn K C (.type "list") = some true) (hg : findIn K (.ref C) "__getitem__" = some (some (.builtin "list.__getitem__")))
    (hs : h.IsSliceOf sl (.int 0 t0) .none .none) (hz : its.size ≤ sizeLine) (hno : noSeq K C = true)
    (hq : Q (.ref h.objs.size) ⟨h.push (listOf its 0), g, d, t, os⟩)
    (hsl : subscripted slice false (.ref x) (.ref sl) = operate [.ref sl, .ref x] (getItem (.ref x) (.ref sl)) := by with_unfolding_all rfl) (ht : ∀ r, letTemporaryGo value (.ref x) r = pure () := by intro _; with_unfolding_all rfl) :
    wpAny (model prog w) A (subscriptTail value slice (.ref x) (.ref sl)) Q E ⟨h, g, d, t, os⟩ := by
  have t1 : Looks (model prog w) h (typeOf (.ref x)) (.ref C) := (Looks.ld hx).andThen .now
  have l1 := looks_findIn (M := model prog w) X hg
  unfold subscriptTail getitemInPython specialOf
  refine wpAny_bind (wpAny_bind (wpAny_bind (t1.here (l1.here ?_))))
  dsimp only
  have fin : wpAny (model prog w) A (subscripted slice false (.ref x) (.ref sl)) (fun r s₃ => wpAny (model prog w) A (letTemporaryGo value (.ref x) r >>= fun _ => pure r) Q E s₃) E ⟨h, g, d, t, os⟩ := by
    rw [hsl]
    exact wpAny_operating (slice_L X hx hi hg hs hz hno (wpAny_bind (wpAny_of_eq (ht _) (wpAny_pure hq))))
  first
    | exact wpAny_pure (wpAny_bind fin)
    | exact wpAny_bind (wpAny_pure (wpAny_bind fin))
    | exact wpAny_bind fin
end
theorem pile_getitem (P : Params) : findIn (hdK.heap_1 P) (.ref 122) "__getitem__" = some (some (.builtin "list.__getitem__")) := by kernel_rfl
theorem pile_noseq (P : Params) : noSeq (hdK.heap_1 P) 122 = true := by kernel_rfl
theorem pile_setitem (P : Params) : findIn (hdK.heap_1 P) (.ref 122) "__setitem__" = some (some (.builtin "list.__setitem__")) := by kernel_rfl
end Mine
end
theorem Mine.top_off_A10 : True := by
  w_top off
  trivial
section
set_option maxRecDepth 100000
set_option maxHeartbeats 4000000
open Builtin
namespace Mine
section
variable {prog : Program} {w : World} {A : Around} {E : Value → Shared → Prop} {K : Frag} {C x sl l : Addr} {h : Heap} {g : Array GenState} {d : Drawn} {t : Nat} {os : OsState} {dx : Addr} {its : Array Value} {n : Nat}
theorem si_kind : builtinKind "list.__setitem__" = some .slot := by decide +kernel
theorem si_split : splitId "list.__setitem__" = some ("list", "__setitem__") := by decide +kernel
theorem si_slot : Slot "list" "__setitem__" "list.__setitem__" := PySem.F.slot_list_setitem
theorem setslice_L {t0 : Tok} {Q : Unit → Shared → Prop} (X : K.In h) (hx : h.get? x = some (instL C dx its n)) (hi : mroIn K C (.type "list") = some true) (hg : findIn K (.ref C) "__setitem__" = some (some (.builtin "list.__setitem__")))
    (hs : h.IsSliceOf sl (.int 0 t0) .none .none) (hl : h.get? l = some (listOf #[] 0)) (hz : its.size ≤ sizeLine) (hno : noSeq K C = true) (hlx : x ≠ l)
    (hq : ∀ h' n', h'.get? x = some (instL C dx #[] n') → Heap.SameBut x h h' → Q () ⟨h', g, d, t, os⟩) : wpAny (model prog w) A (setItem (.ref x) (.ref sl) (.ref l)) Q E ⟨h, g, d, t, os⟩ := by
  have t1 : Looks (model prog w) h (typeOf (.ref x)) (.ref C) := (Looks.ld hx).andThen .now
  have l1 := looks_findIn (M := model prog w) X hg
  have i1 := looks_mroIn (M := model prog w) X hi
  have b1 := si_slot.bind (.ref x)
  obtain ⟨osl, hos, hcs, hds⟩ := id hs
  have hTs : (⟨h, g, d, t, os⟩ : Shared).TypeIs (.ref sl) "slice" := ⟨osl, hos, hcs⟩
  have hTl : (⟨h, g, d, t, os⟩ : Shared).TypeIs (.ref l) "list" := ⟨_, hl, rfl⟩
  unfold setItem sequenceKey
  refine wpAny_holding (wpAny_bind (wpAny_bind (t1.here ?_)))
  refine wpAny_bind ((anyM_none X hno).here ?_)
  rw [if_pos (show (!false) = true from rfl)]
  refine wpAny_pure (wpAny_bind ?_)
  unfold callSpecial? specialOf
  refine wpAny_bind (wpAny_bind (t1.here (l1.here ?_)))
  dsimp only
  refine wpAny_holding (wpAny_bind (wpAny_of_eq b1 ?_))
  dsimp only
  refine wpAny_bind (wpAny_call (codeAny_call_builtin_code (Code.quiet_builtin _ (by decide +kernel)) ?_))
  simp only [checkBuiltinCall, si_kind, si_split]
  unfold isInstance
  repeat lk
  refine codeAny_builtin PySem.F.entry_list_setitem ?_
  show wpAny _ _ (Builtin.List.listSubscript? (.ref sl) >>= _) _ _ _
  refine wpAny_bind ?_
  unfold Builtin.List.listSubscript?
  refine wpAny_bind (wpAny_specialOf hTs slice_no_index ?_)
  simp only [Option.isNone_none, if_true]
  refine wpAny_pure ?_
  show wpAny _ _ (typeOf (.ref sl) >>= _) _ _ _
  refine wpAny_bind (wpAny_typeOf hTs ?_)
  rw [if_neg (by decide)]
  rw [listSliceParts_eq]
  refine wpAny_bind (wpAny_bind (wpAny_field hos hds (x := .none) rfl (wpAny_bind (wpAny_listPart .none ?_))))
  rw [if_neg (by exact Bool.false_ne_true)]
  refine wpAny_bind (wpAny_field hos hds (x := .int 0 t0) rfl (wpAny_bind (wpAny_listPart (.int 0 t0) ?_)))
  refine wpAny_bind (wpAny_field hos hds (x := .none) rfl (wpAny_bind (wpAny_listPart .none (wpAny_pure ?_))))
  dsimp only
  have hsame : Builtin.List.listSameRef (.ref x) (.ref l) = false := by
    show (x == l) = false
    exact beq_false_of_ne hlx
  rw [hsame, if_neg Bool.false_ne_true]
  unfold Builtin.List.listAllItems Builtin.List.listItems
  refine wpAny_bind (wpAny_bind (wpAny_typeOf hTl ?_))
  rw [if_pos (by decide)]
  refine wpAny_bind (wpAny_seqItems hl rfl (wpAny_pure ?_))
  refine wpAny_bind (wpAny_bind (wpAny_seqItems hx rfl (wpAny_pure ?_)))
  refine wpAny_bind (wpAny_of_eq (sliceIndices_raw (some 0) none none its.size (by decide)) ?_)
  have hb : sliceBounds (some 0) none none its.size = (0, (its.size : Int), 1) := by
    rw [sliceBounds_plain]
    have h0 := clipAt_nat its.size 0
    simp only [Nat.zero_min] at h0
    show (((clipAt its.size ((0 : Nat) : Int) : Nat) : Int), _, _) = _
    rw [h0]
    rfl
  rw [hb]
  dsimp only
  have htl : ¬ (Builtin.List.listTooLong (its.size + (#[] : Array Value).size) = true) := by
    unfold Builtin.List.listTooLong
    rw [decide_eq_true_eq, Array.size_empty, Nat.add_zero]
    exact Nat.not_lt.mpr hz
  rw [if_pos (by decide)]
  refine wpAny_bind (wpAny_rule ?_)
  rw [if_neg htl]
  have hmx : (max (0 : Int) (its.size : Int)).toNat = its.size := by omega
  have hf : ∀ xs : Array Value, xs.size = its.size → xs.extract 0 (0 : Int).toNat ++ (#[] : Array Value) ++ xs.extract (max (0 : Int) (its.size : Int)).toNat xs.size = #[] := fun xs hx => by
    rw [hmx, hx]
    apply Array.toList_inj.mp
    simp [← hx]
  obtain ⟨n', hd'⟩ := Obj.data_mapSeq (o := instL C dx its n) rfl (fun xs => xs.extract 0 (0 : Int).toNat ++ (#[] : Array Value) ++ xs.extract (max (0 : Int) (its.size : Int)).toNat xs.size)
  rw [hf its rfl] at hd'
  unfold Builtin.List.listUpdate
  refine wpAny_bind (wpAny_updateSeq hx rfl ?_ hz (by rw [hf its rfl]; exact Nat.zero_le _))
  refine wpAny_bind (wpAny_letGo ?_)
  refine wpAny_pure (wpAny_pure (wpAny_pure ?_))
  refine hq _ n' ?_ (Heap.SameBut.update ..)
  rw [Heap.get?_update_self _ hx (by rw [Obj.isFreed_of_seq hd'])]
  have e1 : ∀ f : Array Value → Array Value, Obj.mapSeq f (instL C dx its n) = { instL C dx its n with data := (Obj.mapSeq f (instL C dx its n)).data } := fun f => rfl
  rw [e1, hd']
end
end Mine
end
theorem Mine.top_off_A8 : True := by
  w_top off
  trivial
namespace Mine
set_option maxRecDepth 100000 in
set_option maxHeartbeats 8000000 in
theorem pop_specA (w : World) (x dx : Addr) (its : Array Value) (n : Nat) (t1 t2 : Tok) (s : Shared) (A : Around) (hroom : A.depth < recursionLimit) (hz : its.size ≤ 1000) (hdx : dx ≠ x) :
    SpecA w A 74 [.ref x] [(x, instL 122 dx its n), (dx, pileDict w.params t1 t2)] s (fun v nl => ∃ (R : Addr) (n' : Nat), v = .ref R ∧ nl = [(R, listOf its 0), (x, instL 122 dx #[] n'), (dx, pileDict w.params t1 t2)]) := by
  unfold SpecA
  k_fill
  intro p loose mean mg mb env outer A₀ base h₀ L m Q E B F X N T hA hf hke hret
  (refine' fn_enter _ _ B F X N T hA hf hke hret ?k6 ?k7 hroom ?k9 ?kB ?_ ?c2 ?c3 ?c4 ?c5; (case k6 => k_is); (case k7 => k_is); (case k9 => exact BindsTo.of_defaults rfl ((X.keeps F.keep) 67 { cls := .type "tuple", data := .seq #[.int 0 252] } (by kernel_rfl)) rfl rfl rfl); (case c5 => decide); (case kB => exact locs rfl); (case c2 => exact rfl); (case c3 => exact rfl); (case c4 => exact rfl))
  clear hret F B X N T
  intro g L' h₁ hg F' N' B' X' T' hlt
  (try dsimp only)
  try k_fold
  have hI : ∀ {h m l}, Fr g L' h m → News g L' h ((x, instL 122 dx its n) :: (dx, pileDict w.params t1 t2) :: l) → InstAt h x (instL 122 dx its n) 122 (some (pileDict w.params t1 t2)) := fun _ N => ⟨(N _ (.head _)).1, rfl, rfl, (N _ (.tail _ (.head _))).1⟩
  lgec_go
  refine tail_L (K := hdK.heap_1 w.params) (its := its) (n := n) (dx := dx) (t0 := 252) ?u1 ?u2 (pile_list _) (pile_getitem _) (Heap.IsSliceOf.new _ _ _ _) (by rw [sizeLine_eq]; omega) (pile_noseq _) ?_
  case u1 => exact (X'.keeps F'.keep).keeps fun b o e => Heap.get?_push_of_some _ e
  case u2 => exact Heap.get?_push_of_some _ (N' _ (.head _)).1
  have F1 := (F'.push { cls := .type "slice", data := .fields #[.int 0 252, .none, .none] }).push (listOf its 0)
  have N1 := (N'.push F' { cls := .type "slice", data := .fields #[.int 0 252, .none, .none] }).push (F'.push _) (listOf its 0)
  lge_go0
  rename Fr _ _ _ _ => F2
  rename News _ _ _ _ => N2
  have F3 := F2.push { cls := .type "slice", data := .fields #[.int 0 252, .none, .none] }
  have N3 := N2.push F2 { cls := .type "slice", data := .fields #[.int 0 252, .none, .none] }
  have zx := N3 _ (.tail _ (.tail _ (.tail _ (.tail _ (.head _)))))
  have zR := N3 _ (.tail _ (.tail _ (.head _)))
  have zd := N3 _ (.tail _ (.tail _ (.tail _ (.tail _ (.tail _ (.head _))))))
  have zl := N3 _ (.tail _ (.head _))
  have hxl := two_off N3 (.tail _ (.tail _ (.tail _ (.tail _ (.head _))))) (.tail _ (.head _)) (fun e => nomatch e)
  have hRx := two_off N3 (.tail _ (.tail _ (.head _))) (.tail _ (.tail _ (.tail _ (.tail _ (.head _))))) (fun e => nomatch e)
  refine setslice_L (K := hdK.heap_1 w.params) (t0 := 252) (X'.keeps F3.keep) zx.1 (pile_list _) (pile_setitem _) (Heap.IsSliceOf.new _ _ _ _) zl.1 (by rw [sizeLine_eq]; omega) (pile_noseq _) hxl fun h4 n4 hx4 hs4 => ?_
  have F4 := F3.change hs4 zx.2.1 zx.2.2
  have N4 : News g L' h4 [(_, listOf its 0), (x, instL 122 dx #[] n4), (dx, pileDict w.params t1 t2)] := fun p hp => by
    rcases List.mem_cons.mp hp with rfl | hp
    · exact ⟨(hs4.2 _ hRx).trans zR.1, zR.2⟩
    · rcases List.mem_cons.mp hp with rfl | hp
      · exact ⟨hx4, zx.2⟩
      · rw [List.mem_singleton.mp hp]
        exact ⟨(hs4.2 _ hdx).trans zd.1, zd.2⟩
  clear N2 N3 F2 F3
  lge_go0
  rename Fr _ _ _ _ => F5
  rename News _ _ _ _ => N5
  exact ⟨_, _, F5, N5, ⟨_, n4, rfl, rfl⟩, _, _, rfl⟩
end Mine
theorem Mine.top_off_Q0 : True := by
  w_top off
  trivial
set_option maxRecDepth 100000
namespace Mine
section
variable {prog : Program} {w : World} {A : Around} {E : Value → Shared → Prop} {s : Shared}
abbrev oneC (elt tg iter0 : PySem.Expr) (scope : Scope) (pos : Pos) : PySem.Expr := .ListComp elt [⟨tg, iter0, [], 0⟩] scope pos
noncomputable def CompOne (prog : Program) (w : World) (A : Around) (h₀ : Heap) (env : Env) (elt : PySem.Expr) (a b y : Str) (scope : Scope) (cl : List (Str × Addr)) (Z : Nat → Value → Prop) (n : Nat) (Q : Flow → Shared → Prop) (xv : Value) (s : Shared) : Prop :=
  ∃ (l : Addr) (vs : List Value) (m : Str → Option Value) (news : List (Addr × PySem.Obj)), xv = .ref l ∧ s.heap.IsList l vs.toArray ∧ Fr h₀ env.locals s.heap m ∧ News h₀ env.locals s.heap news ∧ vs.length = n ∧ n ≤ 100 ∧
    (∀ (i : Nat) (v : Value), vs[i]? = some v → ∃ T x z, v = .ref T ∧ s.heap.get? T = some (tupO x z) ∧
      ∀ (C : Addr) (s₃ : Shared) (m₃ : Str → Option Value) (E' : Value → Shared → Prop), Fr s.heap C s₃.heap m₃ → m₃ a = some x → m₃ b = some z →
        wpAny (model prog w) A (eval elt (compEnvC scope cl C env)) (fun v s' => Z i v ∧ Keeps s₃ s') E' s₃) ∧
    (∀ D h' tk (ys : List Value) k, Fr h₀ env.locals h' (fun q => if q = y then some (.ref D) else m q) → News h₀ env.locals h' ((D, listOf ys.toArray k) :: news) → (∀ q ∈ news, q.1 ≠ D) → ys.length = n → (∀ i v, ys[i]? = some v → Z i v) →
      Q .next { s with heap := h', toks := tk })
set_option maxHeartbeats 2000000 in
theorem comp_one {env : Env} {h₀ : Heap} {elt iter0 : PySem.Expr} {a b y : Str} {pa pb py tp : Pos} {kk : Nat} {scope : Scope} {cl : List (Str × Addr)} {pos spos : Pos} {Q : Flow → Shared → Prop} {m₀ : Str → Option Value} (_F : Fr h₀ env.locals s.heap m₀)
    (Z : Nat → Value → Prop) (n : Nat) (hh : A.handled = none)
    (hsw : swapsWith (oneC elt (.Tuple [.Name a pa, .Name b pb] kk tp) iter0 scope pos) (some (.Name y py)) spos.line env = pure true)
    (hclos : closureFor scope env = pure cl) (hcell : ∀ z ∈ scope.names, z.2 ≠ .cell) (hkind : scope.kind = .function)
    (hnames : ∀ z ∈ scope.names, z.2 = .local → scope.names.lookup z.1 = some .local) (ha : scope.names.lookup a = some .local) (hb : scope.names.lookup b = some .local) (hab : a ≠ b)
    (hy : env.kindOf y = some .local) (hp : (env.scope.kind == .class || (env.scope.kind == .module && env.locals != env.globals)) = false)
    (h : wpAny (model prog w) A (eval iter0 env) (CompOne prog w A h₀ env elt a b y scope cl Z n Q) E s) (hs0 : ∀ x, foldedSetIterable iter0 env x = pure x) :
    wpAny (model prog w) A (exec (.Assign [.Name y py] (oneC elt (.Tuple [.Name a pa, .Name b pb] kk tp) iter0 scope pos) spos) env) Q E s := by
  rw [exec_Assign_Name_used _ _ _ _ hsw]
  refine wpAny_bind (wpAny_standAt (wpAny_bind ?_))
  show wpAny _ A (do let _ ← comprehension (oneC elt (.Tuple [.Name a pa, .Name b pb] kk tp) iter0 scope pos) scope env _ (newList []) false (eval iter0 env) (some (assign (.Name y py) env))) _ _ s
  refine wpAny_bind (wpAny_mono (wpAny_comprehension_free (use := some (assign (.Name y py) env)) (Q := fun _ s' => Q .next s') rfl hs0 hclos hkind hnames
    (wpAny_mono h (fun xv s₁ h₁ => ?_) fun _ _ e => e)) (fun _ s' hq => wpAny_pure (wpAny_pure hq)) fun _ _ e => e)
  obtain ⟨l, vs, m, news, rfl, hl, F, N, hn, hn100, hsrc, hQ⟩ := h₁
  subst hn
  have hpl : ∀ C, ((compEnvC scope cl C env).scope.kind == .class || ((compEnvC scope cl C env).scope.kind == .module && (compEnvC scope cl C env).locals != (compEnvC scope cl C env).globals)) = false := fun C => by simp [compEnvC, relabel, hkind]
  obtain ⟨ol, hol, hcl, k0, hd0⟩ := id hl
  have hne : l ≠ s₁.heap.objs.size := Nat.ne_of_lt (Heap.lt_size hol)
  refine wpAny_pyIter_list hl ?_
  have W := Walks.list (prog := prog) (w := w) hh s₁.heap.objs.size l hne vs.toArray
  generalize hI : s₁.heap.objs.size = I at W hne ⊢
  generalize hH1 : s₁.heap.push _ = H1
  have hIt : H1.IsListIter I l 0 := by rw [← hH1, ← hI]; exact ⟨_, Heap.get?_push_size _ rfl, rfl, rfl⟩
  have k1 : ∀ c o, s₁.heap.get? c = some o → H1.get? c = some o := fun c o e => by rw [← hH1]; exact Heap.get?_push_of_some _ e
  have hz1 : H1.objs.size = I + 1 := by rw [← hH1, Heap.size_push, hI]
  clear hH1
  refine wpAny_newObj_type (wpAny_newFunctionEnv hcell (by intro y hy; simp at hy) (fun h₁ hns₁ hsb₁ => ?_) hkind)
  dsimp only at hns₁ hsb₁ ⊢
  generalize hH2 : H1.push { cls := .type "list", dict := none, data := .seq ([] : List Value).toArray } = H2 at hns₁ hsb₁ ⊢
  have hD2 : H2.get? H1.objs.size = some (listOf ([] : List Value).toArray 0) := by rw [← hH2]; exact Heap.get?_push_size _ rfl
  have k2 : ∀ c o, H1.get? c = some o → H2.get? c = some o := fun c o e => by rw [← hH2]; exact Heap.get?_push_of_some _ e
  have hz2 : H2.objs.size = I + 2 := by rw [← hH2, Heap.size_push, hz1]
  clear hH2
  generalize hD : H1.objs.size = D at hD2 ⊢
  generalize hC : H2.objs.size = C at hns₁ hsb₁ ⊢
  have hDI' : D = I + 1 := by omega
  have hCI' : C = I + 2 := by omega
  have hDI : @Ne Nat I D := by omega
  have hCI : @Ne Nat I C := by omega
  have hDC : @Ne Nat D C := by omega
  have k3 : ∀ c o, H2.get? c = some o → h₁.get? c = some o := fun c o e => hsb₁.extBut c o (lt3 (Heap.lt_size e) hC (Nat.le_refl _)).2 (Heap.get?_push_of_some _ e)
  have kk1 : ∀ c o, s₁.heap.get? c = some o → h₁.get? c = some o := fun c o e => k3 _ _ (k2 _ _ (k1 _ _ e))
  have hD1 := k3 _ _ hD2
  have hI1 : h₁.IsListIter I l 0 := hIt.at fun o e => k3 _ _ (k2 _ _ e)
  have hsz : s₁.heap.objs.size = I := hI
  have below : ∀ c o, s₁.heap.get? c = some o → @Ne Nat c I ∧ @Ne Nat c D ∧ @Ne Nat c C := fun c o e => lt4 (Heap.lt_size e) hI hDI' hCI'
  have hCb : s₁.heap.objs.size ≤ C := by omega
  have hns : h₁.Ns C fun _ => none := by simpa using hns₁
  clear k1 k2 k3 hIt hD2 hz1 hz2 hns₁ hsb₁
  have hav := lookup_relabel_local (env := env) ha
  have hbv := lookup_relabel_local (env := env) hb
  have hLb : ∀ {h : Heap}, (∀ c o, s₁.heap.get? c = some o → h.get? c = some o) → @Ne Nat env.locals I ∧ @Ne Nat env.locals D ∧ @Ne Nat env.locals C := fun _ => by
    obtain ⟨oL, _, _, hoL, _⟩ := F.ns
    exact below _ _ hoL
  have loop : ∀ s₃ : Shared, s₃ = { s₁ with heap := h₁, toks := s₁.toks + ([] : List (Str × Value)).length } →
      codeAny (model prog w) A (.compLoop (oneC elt (.Tuple [.Name a pa, .Name b pb] kk tp) iter0 scope pos) 0 (.ref I) (.ref D) (compEnvC scope cl C env)) (compPost (model prog w) A E (some (assign (.Name y py) env)) (fun _ s' => Q .next s') (.ref D) C) s₃ := by
    rintro s₃ rfl
    refine kcp_loop (fun k s' => ∃ h tk i m' ys kz, s' = { s₁ with heap := h, toks := tk } ∧ i ≤ vs.length ∧ k = vs.length + 1 - i ∧ h.Ns C m' ∧ (∀ c o, s₁.heap.get? c = some o → h.get? c = some o) ∧
      h.get? D = some (listOf (ys : List Value).toArray kz) ∧ h.IsListIter I l i ∧ ys.length = i ∧ (∀ j v, ys[j]? = some v → Z j v)) ?_ (vs.length + 1)
      ⟨h₁, _, 0, _, [], 0, rfl, Nat.zero_le _, rfl, hns, kk1, hD1, hI1, rfl, fun j v hv => by simp at hv⟩
    rintro k s' ⟨h, tk, i, m', ys, kz, rfl, hi, rfl, hn', hk, hDz, hIi, hyl, hyz⟩
    have hlh : h.IsList l vs.toArray := hl.at fun o e => hk _ _ e
    have hsz : vs.toArray.size = vs.length := by simp
    rw [hsz] at W
    by_cases hlt : i < vs.length
    · refine W.item i _ _ _ hlt ⟨hIi, hlh⟩ fun v h₂ tk₂ hv st₂ hk₂ => ?_
      have hv' : vs[i]? = some v := by simpa using hv
      obtain ⟨T, x, z, rfl, hT, hev⟩ := hsrc i v hv'
      have up₂ : ∀ c o, @Ne Nat c I → h.get? c = some o → h₂.get? c = some o := fun c o hc e => hk₂ c o (fun hm => hc (List.mem_singleton.mp hm)) e
      have hk2 : ∀ c o, s₁.heap.get? c = some o → h₂.get? c = some o := fun c o e => up₂ c o (below c o e).1 (hk c o e)
      refine wpAny_letOwnedTupleGo_listiter st₂.1 ?_
      have hn₂ : h₂.Ns C m' := hn'.at' fun o e => up₂ _ _ hCI.symm e
      refine kcp_assign hh ⟨_, hk2 _ _ hT, rfl, _, rfl⟩ hav hbv (hpl C) hn₂ fun h₃ tk₃ hn₃ hk₃ => ?_
      have hk3 : ∀ c o, s₁.heap.get? c = some o → h₃.get? c = some o := fun c o e => hk₃ c o (below c o e).2.2 (hk2 c o e)
      have hI₃ : h₃.IsListIter I l (i + 1) := st₂.1.at fun o e => hk₃ _ _ hCI e
      have hD₃ := hk₃ _ _ hDC (up₂ _ _ hDI.symm hDz)
      refine wpAny_mono (hev C _ _ _ ⟨hn₃, hk3, hCb⟩ (by simp [hab]) (by simp)) (fun v s₄ hv4 => ?_) fun _ _ e => e
      obtain ⟨hz, h₄, tk₄, rfl, hk₄⟩ := hv4
      refine append_at (hk₄ _ _ hD₃) (fun h₅ hs₅ hD₅ => ?_) (by rw [List.size_toArray, hyl, sizeLine_eq]; omega)
      have up₅ : ∀ c o, @Ne Nat c D → h₃.get? c = some o → h₅.get? c = some o := fun c o hc e => hs₅.extBut c o hc (hk₄ _ _ e)
      refine ⟨vs.length + 1 - (i + 1), by omega, h₅, _, i + 1, _, ys ++ [v], kz + 1, rfl, hlt, rfl, hn₃.at' fun o e => up₅ _ _ hDC.symm e, fun c o e => up₅ c o (below c o e).2.1 (hk3 c o e), ?_, hI₃.at fun o e => up₅ _ _ hDI e, by rw [List.length_append, hyl]; rfl, ?_⟩
      · rw [hD₅, List.push_toArray]
      · intro j u hu
        by_cases hj : j < ys.length
        · rw [List.getElem?_append_left hj] at hu
          exact hyz j u hu
        · rw [List.getElem?_append_right (Nat.not_lt.mp hj)] at hu
          have hj0 : j - ys.length = 0 := by
            cases e : j - ys.length with
            | zero => rfl
            | succ => rw [e] at hu; simp at hu
          rw [hj0, List.getElem?_cons_zero] at hu
          have : j = i := by omega
          rw [this, ← Option.some.inj hu]
          exact hz
    · have hi' : i = vs.length := Nat.le_antisymm hi (Nat.not_lt.mp hlt)
      subst hi'
      refine W.done _ _ _ ⟨hIi, hlh⟩ fun h₂ tk₂ hk₂ => ?_
      have up₂ : ∀ c o, @Ne Nat c I → h.get? c = some o → h₂.get? c = some o := fun c o hc e => hk₂ c o (fun hm => hc (List.mem_singleton.mp hm)) e
      obtain ⟨hL1, hL2, hL3⟩ := hLb hk
      have kA : ∀ c o, s₁.heap.get? c = some o → h₂.get? c = some o := fun c o e => up₂ c o (below c o e).1 (hk c o e)
      have hnL : h₂.Ns env.locals m := F.ns.at' fun o e => kA _ _ e
      show wpAny _ A (assign (.Name y py) env (.ref D)) _ _ _
      refine wpAny_assign_Name (wpAny_storeName_local hy hnL (fun h₃ hn₃ hs₃ => ?_) hp)
      refine ⟨m', (hn'.at' fun o e => up₂ _ _ hCI.symm e).sameBut hs₃ hL3.symm, fun h₄ hs₄ => ?_⟩
      have kB : ∀ c o, @Ne Nat c env.locals → s₁.heap.get? c = some o → h₄.get? c = some o := fun c o hc e => hs₄.extBut c o (below c o e).2.2 (hs₃.extBut c o hc (kA c o e))
      have hD₄ : h₄.get? D = some (listOf ys.toArray kz) := hs₄.extBut _ _ hDC (hs₃.extBut _ _ hL2.symm (up₂ _ _ hDI.symm hDz))
      refine hQ D h₄ _ ys kz ⟨hn₃.sameBut hs₄ hL3, fun c o e => ?_, F.above⟩ ?_ (fun q hq => (below _ _ (N q hq).1).2.1) hyl hyz
      · exact kB c o (fun q => absurd (Heap.lt_size e) (Nat.not_lt.mpr (q ▸ F.above))) (F.keep c o e)
      · intro q hq
        rcases List.mem_cons.mp hq with rfl | hq
        · refine ⟨hD₄, hL2.symm, ?_⟩
          cases e : h₀.get? D with
          | none => rfl
          | some o => exact absurd rfl (below _ _ (F.keep _ _ e)).2.1
        · exact ⟨kB _ _ (N q hq).2.1 (N q hq).1, (N q hq).2⟩
  exact codeAny_compStart_list (loop _ rfl) (W.self 0 _ _ _ ⟨hI1, hl.at fun o e => kk1 _ _ e⟩ (loop _ rfl))
end
end Mine
theorem Mine.top_off_Q1 : True := by
  w_top off
  trivial
set_option maxRecDepth 100000
namespace Mine
noncomputable def seenZ (look : Bool) (at' : Nat) : Int := if look then (at' : Int) + 1 else (at' : Int) - 1
noncomputable def goStep (rz : List (Bool × Nat)) (N : List Int) (st : Option (Nat × Nat)) (at' : Nat) : Option (Nat × Nat) :=
  let seen := seenZ (rz.getD at' (false, 0)).1 at'
  if 0 ≤ seen ∧ seen < (rz.length : Int) ∧ N.getD seen.toNat 0 < N.getD at' 0 then
    match st with
    | none => some (at', seen.toNat)
    | some (g, b) => if N.getD g 0 < N.getD at' 0 then some (at', seen.toNat) else some (g, b)
  else st
noncomputable def changeZ (num : Nat → Int) (rz : List (Bool × Nat)) : Bool × List (Bool × Nat) :=
  match (List.range rz.length).foldl (goStep rz (rz.map fun q => num q.2)) none with
  | none => (false, rz)
  | some (g, b) => (true, ((rz.set g (rz.getD b (false, 0))).set b (rz.getD g (false, 0))).map fun q => if num q.2 > (rz.map fun q => num q.2).getD g 0 then (!q.1, q.2) else q)
section
variable {prog : Program} {w : World} {A : Around} {E : Value → Shared → Prop} {s : Shared} {K : Frag} {C x : Addr} {ox : PySem.Obj} {od : Option PySem.Obj}
theorem method_fnL {name : Str} {f : Addr} {pl : Sem Bool} {Q : Value × List Value → Shared → Prop} (X : K.In s.heap) (I : InstAt s.heap x ox C od) (hga : findIn K (.ref C) "__getattribute__" = some (some (.builtin "list.__getattribute__"))) (hk : findIn K (.ref C) "__getattr__" = some none)
    (hf : findIn K (.ref C) name = some (some (.ref f))) (ht : typeIn K (.ref f) = some (.type "function")) (hs : shadowIn od name = some false) (h : Q (.ref f, [.ref x]) s) :
    wpAny (model prog w) A (getMethod (.ref x) name pl) Q E s := by
  have hcan : Manifest.canonical "list.__getattribute__" = "object.__getattribute__" := by decide +kernel
  unfold getMethod specialOf
  refine wpAny_bind (wpAny_bind (I.type.here ((looks_findIn X hga).here ?_)))
  dsimp only
  rw [hcan, if_neg (by decide)]
  refine wpAny_bind (wpAny_bind (I.type.here ((looks_findIn X hk).here ?_)))
  refine wpAny_bind (wpAny_bind (I.type.here ((looks_findIn X hf).here (wpAny_bind ((looks_typeIn X ht).here ?_)))))
  rw [if_neg (by decide +kernel)]
  refine wpAny_bind (wpAny_loadPart I.at_ ?_)
  have hd := I.dict
  cases e : ox.dict with
  | none => exact wpAny_bind (wpAny_rule (wpAny_pure h))
  | some dx =>
    cases od with
    | none => rw [e] at hd; exact hd.elim
    | some o =>
      rw [e] at hd
      obtain ⟨r, a, b⟩ := Option.map_eq_some_iff.mp hs
      refine wpAny_bind (wpAny_bind (wpAny_loadPart hd ?_))
      rw [nsLook_of a]
      refine wpAny_pure ?_
      rw [b]
      exact wpAny_bind (wpAny_rule (wpAny_pure h))
end
theorem pile_push (P : Params) : findIn (hdK.heap_1 P) (.ref 122) "push" = some (some (.ref 66)) := by kernel_rfl
theorem pile_popf (P : Params) : findIn (hdK.heap_1 P) (.ref 122) "pop_from" = some (some (.ref 74)) := by kernel_rfl
theorem pile_push_t (P : Params) : typeIn (hdK.heap_1 P) (.ref 66) = some (.type "function") := by kernel_rfl
theorem pile_popf_t (P : Params) : typeIn (hdK.heap_1 P) (.ref 74) = some (.type "function") := by kernel_rfl
theorem shadow_push (P : Params) (t1 t2 : Tok) : shadowIn (some (pileDict P t1 t2)) "push" = some false := by kernel_rfl
theorem shadow_popf (P : Params) (t1 t2 : Tok) : shadowIn (some (pileDict P t1 t2)) "pop_from" = some false := by kernel_rfl
theorem news_hid {h₀ h h' : Heap} {L : Addr} {m : Str → Option Value} {hid nl : List (Addr × PySem.Obj)} (F : Fr h₀ L h m) (N : News h₀ L h hid)
    (hn : ∀ q ∈ nl, h'.get? q.1 = some q.2 ∧ (q.1 ∈ hid.map (·.1) ∨ h.get? q.1 = none)) : News h₀ L h' nl := fun q hq => by
  obtain ⟨h1, h2⟩ := hn q hq
  rcases h2 with h2 | h2
  · obtain ⟨p, hp, e⟩ := List.mem_map.mp h2
    exact ⟨h1, e ▸ (N p hp).2.1, e ▸ (N p hp).2.2⟩
  · refine ⟨h1, fun e => ?_, ?_⟩
    · obtain ⟨oL, _, _, hL, _⟩ := F.ns
      rw [e, hL] at h2; cases h2
    · cases q' : h₀.get? q.1 with
      | none => rfl
      | some o => rw [F.keep _ _ q'] at h2; cases h2
section
variable {prog : Program} {w : World} {A : Around} {E : Value → Shared → Prop} {s : Shared}
theorem op_item {x : Str} {t : Tok} {k : Nat} {Q : Value → Shared → Prop} (X : (hdK.heap_1 w.params).In s.heap) (hk : opN x.cps.toList = some k) (h : ∀ tk, Q (.int (k : Int) tk) { s with toks := s.toks + 1 }) :
    ItemOn (model prog w) A E (.ref 127) (.str x t) Q s := by
  have hm := op_map (prog := prog) X
  refine ⟨"dict", _, PySem.F.slot_dict_getitem.lookup, hm.typeIs, ?_⟩
  rcases opV_opN x with ⟨_, h2⟩ | ⟨n, t', h1, h2, h3⟩
  · rw [hk] at h2; cases h2
  · refine wpAny_getItem_of (strKind_is prog w x t) hm h1 ?_
    rw [hk] at h2
    have e : (k : Int) = n := by rw [Option.some.inj h2]; exact Int.toNat_of_nonneg h3
    rw [← e]
    exact h t'
end
noncomputable def OptIs (gv : Value) : Option Nat → Prop
  | none => gv = .none
  | some k => ∃ t, gv = .int (k : Int) t
noncomputable def ChJ (x R NM : Addr) (rest : List (Addr × PySem.Obj)) (rz : List (Bool × Nat)) (N : List Int) (i : Nat) (m : Str → Option Value) (nx : List (Addr × PySem.Obj)) : Prop :=
  ∃ (gv bv : Value) (u : Str → Option Value), m = mp [("pile", .ref x), ("row", .ref R), ("numbers", .ref NM), ("goes", gv), ("beside", bv)] u ∧ nx = rest ∧
    OptIs gv (((List.range i).foldl (goStep rz N) none).map (·.1)) ∧ OptIs bv (((List.range i).foldl (goStep rz N) none).map (·.2)) ∧
    ∀ g b, (List.range i).foldl (goStep rz N) none = some (g, b) → g < rz.length ∧ b < rz.length
theorem goStep_room {rz : List (Bool × Nat)} {N : List Int} {st : Option (Nat × Nat)} {at' : Nat} (ha : at' < rz.length) (h : ∀ g b, st = some (g, b) → g < rz.length ∧ b < rz.length) : ∀ g b, goStep rz N st at' = some (g, b) → g < rz.length ∧ b < rz.length := by
  intro g b e
  unfold goStep at e
  dsimp only at e
  split at e
  · rename_i hc
    have hs : (seenZ (rz.getD at' (false, 0)).1 at').toNat < rz.length := by omega
    split at e
    · cases e; exact ⟨ha, hs⟩
    · split at e
      · cases e; exact ⟨ha, hs⟩
      · exact h g b e
  · exact h g b e
end Mine
theorem Mine.top_off_Q3 : True := by
  w_top off
  trivial
set_option maxRecDepth 100000
namespace Mine
theorem look_tab (b : Bool) : (look b == Str.ofString "\t") = b := by cases b <;> decide +kernel
section
variable {rz : List (Bool × Nat)} {NN : List Int} {i g b : Nat} {sn : Int} {st : Option (Nat × Nat)}
theorem seen_t {q : Bool × Nat} (hq : rz[i]? = some q) (h : q.1 = true) : seenZ (rz.getD i (false, 0)).1 i = 0 + (i : Int) * 1 + 1 := by
  rw [List.getD_eq_getElem?_getD, hq]
  show seenZ q.1 i = _
  rw [h]
  unfold seenZ
  rw [if_pos rfl]; omega
theorem seen_f {q : Bool × Nat} (hq : rz[i]? = some q) (h : q.1 = false) : seenZ (rz.getD i (false, 0)).1 i = 0 + (i : Int) * 1 - 1 := by
  rw [List.getD_eq_getElem?_getD, hq]
  show seenZ q.1 i = _
  rw [h]
  unfold seenZ
  rw [if_neg Bool.false_ne_true]; omega
theorem go_no (hsn : seenZ (rz.getD i (false, 0)).1 i = sn) (h : ¬ (0 ≤ sn ∧ sn < (rz.length : Int) ∧ NN.getD sn.toNat 0 < NN.getD i 0)) : goStep rz NN st i = st := by
  unfold goStep
  rw [hsn, if_neg h]
theorem go_set_none (hsn : seenZ (rz.getD i (false, 0)).1 i = sn) (h : 0 ≤ sn ∧ sn < (rz.length : Int) ∧ NN.getD sn.toNat 0 < NN.getD i 0) : goStep rz NN none i = some (i, sn.toNat) := by
  unfold goStep
  rw [hsn, if_pos h]
theorem go_set_some (hsn : seenZ (rz.getD i (false, 0)).1 i = sn) (h : 0 ≤ sn ∧ sn < (rz.length : Int) ∧ NN.getD sn.toNat 0 < NN.getD i 0) (h2 : NN.getD g 0 < NN.getD i 0) : goStep rz NN (some (g, b)) i = some (i, sn.toNat) := by
  unfold goStep
  rw [hsn, if_pos h]
  dsimp only
  rw [if_pos h2]
theorem go_keep_some (hsn : seenZ (rz.getD i (false, 0)).1 i = sn) (h2 : ¬ NN.getD g 0 < NN.getD i 0) : goStep rz NN (some (g, b)) i = some (g, b) := by
  unfold goStep
  rw [hsn]
  dsimp only
  by_cases h : 0 ≤ sn ∧ sn < (rz.length : Int) ∧ NN.getD sn.toNat 0 < NN.getD i 0
  · rw [if_pos h, if_neg h2]
  · rw [if_neg h]
end
theorem ch_turn {gg h' : Heap} {L' I x R NM : Addr} {oI : PySem.Obj} {rest : List (Addr × PySem.Obj)} {rz : List (Bool × Nat)} {NN : List Int} {i tk : Nat} {m' : Str → Option Value} {s : Shared} {gv bv : Value} (st' : Option (Nat × Nat))
    (F : Fr gg L' h' m') (N : News gg L' h' ((I, oI) :: rest)) (hoff : ∀ p ∈ rest, p.1 ≠ I) (hm : MpOk m' [("pile", .ref x), ("row", .ref R), ("numbers", .ref NM), ("goes", gv), ("beside", bv)])
    (hst : (List.range (i + 1)).foldl (goStep rz NN) none = st') (hg : OptIs gv (st'.map (·.1))) (hb : OptIs bv (st'.map (·.2))) (hroom : ∀ g b, st' = some (g, b) → g < rz.length ∧ b < rz.length) :
    Trn gg L' I oI (ChJ x R NM rest rz NN (i + 1)) s .next { s with heap := h', toks := tk } := by
  subst hst
  exact Trn.intro rest F N (fun p hp => .tail _ hp) (.head _) hoff ⟨gv, bv, _, mp_of hm, rfl, hg, hb, hroom⟩
theorem set_L {prog : Program} {w : World} {A : Around} {E : Value → Shared → Prop} {s : Shared} {h₀ : Heap} {L D : Addr} {m : Str → Option Value} {pre post : List (Addr × PySem.Obj)} {its : List Value} {n : Nat} {k : Int} {t : Tok} {v : Value} {Q : Unit → Shared → Prop}
    (F : Fr h₀ L s.heap m) (N : News h₀ L s.heap (pre ++ (D, listOf its.toArray n) :: post)) (a : ∀ p ∈ pre, p.1 ≠ D) (b : ∀ p ∈ post, p.1 ≠ D) (h0 : 0 ≤ k) (h1 : k < (its.length : Int)) (hz : its.length ≤ 1000)
    (h : ∀ h', Fr h₀ L h' m → News h₀ L h' (pre ++ (D, listOf (its.set k.toNat v).toArray n) :: post) → Q () { s with heap := h' }) : wpAny (model prog w) A (setItem (.ref D) (.int k t) v) Q E s := by
  have z := N (D, listOf its.toArray n) (List.mem_append.mpr (.inr (.head _)))
  refine ki_setAt z.1 h0 (by omega) (by rw [List.size_toArray]; exact h1) (h _ (F.change (Heap.SameBut.update ..) z.2.1 z.2.2) (ki_turn _ N a b ?_ ?_))
  · apply Array.toList_inj.mp
    rw [Array.toList_setIfInBounds]
  · rw [if_pos (by simp)]
noncomputable def swapZ (rz : List (Bool × Nat)) : Option (Nat × Nat) → List (Bool × Nat)
  | none => rz
  | some (g, b) => (rz.set g (rz.getD b (false, 0))).set b (rz.getD g (false, 0))
theorem TwoAll.set {α : Type} {tl : List (Addr × PySem.Obj)} {f : α → Value → Value → Prop} {T : Addr} {x y : Value} {a : α} (hm : (T, tupO x y) ∈ tl) (h : f a x y) :
    ∀ {vs : List Value} {as : List α} (i : Nat), TwoAll tl f vs as → TwoAll tl f (vs.set i (.ref T)) (as.set i a)
  | [], [], _, k => k
  | [], _ :: _, _, k => k.elim
  | _ :: _, [], _, k => k.elim
  | _ :: _, _ :: _, 0, ⟨_, r⟩ => ⟨⟨T, x, y, rfl, hm, h⟩, r⟩
  | _ :: _, _ :: _, i + 1, ⟨p, r⟩ => ⟨p, TwoAll.set hm h i r⟩
noncomputable def SwJ (x R NM : Addr) (oN : PySem.Obj) (rest tl : List (Addr × PySem.Obj)) (nms : List (Str × Tok)) (rz2 : List (Bool × Nat)) (gv : Value) (m : Str → Option Value) (nx : List (Addr × PySem.Obj)) : Prop :=
  ∃ (rv2 : List Value) (k2 : Nat) (u : Str → Option Value), m = mp [("pile", .ref x), ("row", .ref R), ("numbers", .ref NM), ("goes", gv)] u ∧ nx = (NM, oN) :: (R, listOf rv2.toArray k2) :: rest ∧ TwoAll tl (rowF nms) rv2 rz2
noncomputable def flipZ (num : Nat → Int) (NN : List Int) : Option (Nat × Nat) → Bool × Nat → Bool × Nat
  | none, q => q
  | some (g, _), q => if num q.2 > NN.getD g 0 then (!q.1, q.2) else q
theorem changeZ_is (num : Nat → Int) (rz : List (Bool × Nat)) (st : Option (Nat × Nat)) (h : (List.range rz.length).foldl (goStep rz (rz.map fun q => num q.2)) none = st) :
    changeZ num rz = (st.isSome, (swapZ rz st).map (flipZ num (rz.map fun q => num q.2) st)) := by
  unfold changeZ
  rw [h]
  cases st with
  | none =>
    show (false, rz) = (false, rz.map fun q => q)
    rw [List.map_id']
  | some p => rfl
theorem news_call {h₀ h h' : Heap} {L : Addr} {m : Str → Option Value} {hid keep nl : List (Addr × PySem.Obj)} (F : Fr h₀ L h m) (N : News h₀ L h hid) (N2 : News h₀ L h keep) (hd : ∀ p ∈ keep, p.1 ∉ hid.map (·.1)) (K : KeepOff (hid.map (·.1)) h h')
    (hn : ∀ q ∈ nl, h'.get? q.1 = some q.2 ∧ (q.1 ∈ hid.map (·.1) ∨ h.get? q.1 = none)) : News h₀ L h' (nl ++ keep) ∧ ∀ q ∈ nl, ∀ p ∈ keep, q.1 ≠ p.1 := by
  refine ⟨fun p hp => ?_, fun q hq p hp e => ?_⟩
  · rcases List.mem_append.mp hp with hp | hp
    · exact news_hid F N hn p hp
    · exact ⟨K _ _ (hd p hp) (N2 p hp).1, (N2 p hp).2⟩
  · rcases (hn q hq).2 with h1 | h1
    · exact hd p hp (e ▸ h1)
    · rw [e, (N2 p hp).1] at h1; cases h1
noncomputable def FnJ (P : Params) (x dx R D : Addr) (t1 t2 : Tok) (oD oR : PySem.Obj) (nms : List (Str × Tok)) (zs : List (Bool × Nat)) (gv : Value) (i : Nat) (m : Str → Option Value) (nx : List (Addr × PySem.Obj)) : Prop :=
  ∃ (pv : List Value) (np : Nat) (tl : List (Addr × PySem.Obj)) (u : Str → Option Value), m = mp [("pile", .ref x), ("row", .ref R), ("numbers", .ref D), ("goes", gv)] u ∧
    nx = (x, instL 122 dx pv.toArray np) :: (dx, pileDict P t1 t2) :: (R, oR) :: (D, oD) :: tl ∧ TupAll tl ∧ TwoAll tl (rowF nms) pv (zs.take i)
theorem fin_turn {P : Params} {g h' : Heap} {L' I x dx R D T2 : Addr} {oI oD oR : PySem.Obj} {t1 t2 tz ty tc : Tok} {b : Bool} {nm : Str} {pv : List Value} {np i tk j : Nat} {tl : List (Addr × PySem.Obj)} {nms : List (Str × Tok)} {zs : List (Bool × Nat)} {gv : Value} {m' : Str → Option Value} {s : Shared}
    (F : Fr g L' h' m') (hm : MpOk m' [("pile", .ref x), ("row", .ref R), ("numbers", .ref D), ("goes", gv)])
    (N : News g L' h' ([(T2, tupO (.str (look b) tz) (.str nm ty)), (x, instL 122 dx (pv.toArray.push (.ref T2)) (np + 1)), (dx, pileDict P t1 t2)] ++ ((I, oI) :: (R, oR) :: (D, oD) :: tl)))
    (hd : ∀ q ∈ [(T2, tupO (.str (look b) tz) (.str nm ty)), (x, instL 122 dx (pv.toArray.push (.ref T2)) (np + 1)), (dx, pileDict P t1 t2)], ∀ p ∈ ((I, oI) :: (R, oR) :: (D, oD) :: tl), q.1 ≠ p.1)
    (hoff : ∀ p ∈ ((R, oR) :: (D, oD) :: tl), p.1 ≠ I) (hta : TupAll tl) (htw : TwoAll tl (rowF nms) pv (zs.take i)) (hz : zs[i]? = some (b, j)) (hnm : nms[j]? = some (nm, tc)) :
    Trn g L' I oI (FnJ P x dx R D t1 t2 oD oR nms zs gv (i + 1)) s .next { s with heap := h', toks := tk } := by
  have ht : zs.take (i + 1) = zs.take i ++ [(b, j)] := by rw [List.take_add_one, hz]; rfl
  refine Trn.intro ((x, instL 122 dx (pv ++ [Value.ref T2]).toArray (np + 1)) :: (dx, pileDict P t1 t2) :: (R, oR) :: (D, oD) :: (T2, tupO (.str (look b) tz) (.str nm ty)) :: tl) F N (fun p hp => ?_) (by simp) (fun p hp => ?_)
    ⟨pv ++ [Value.ref T2], np + 1, _, _, mp_of hm, rfl, fun p hp => ?_, ?_⟩
  · rw [List.push_toArray]
    simp only [List.mem_cons, List.mem_append, List.not_mem_nil, or_false] at hp ⊢
    rcases hp with h | h | h | h | h | h <;> simp [h]
  · rcases List.mem_cons.mp hp with rfl | hp
    · exact hd _ (.tail _ (.head _)) _ (.head _)
    rcases List.mem_cons.mp hp with rfl | hp
    · exact hd _ (.tail _ (.tail _ (.head _))) _ (.head _)
    rcases List.mem_cons.mp hp with rfl | hp
    · exact hoff _ (.head _)
    rcases List.mem_cons.mp hp with rfl | hp
    · exact hoff _ (.tail _ (.head _))
    rcases List.mem_cons.mp hp with rfl | hp
    · exact hd _ (.head _) _ (.head _)
    · exact hoff _ (.tail _ (.tail _ hp))
  · rcases List.mem_cons.mp hp with rfl | hp
    · exact ⟨_, _, rfl⟩
    · exact hta p hp
  · rw [ht]
    exact TwoAll.app (htw.mono fun p hp => .tail _ hp) (TwoAll.one (.head _) ⟨⟨_, rfl⟩, nm, ty, tc, hnm, rfl⟩)
theorem dict_ne {P : Params} {t1 t2 : Tok} {o : PySem.Obj} (h : o.cls = .type "list" ∨ o.cls = .type "tuple") : o.cls ≠ (pileDict P t1 t2).cls := fun e => by
  have e2 : (pileDict P t1 t2).cls = .type "dict" := rfl
  rw [e2] at e
  rcases h with h | h <;> (rw [h] at e; injection e with e; exact absurd e (by decide))
theorem inst_ne {C dx : Addr} {its : Array Value} {n : Nat} {o : PySem.Obj} (h : o.cls = .type "list" ∨ o.cls = .type "tuple") : o.cls ≠ (instL C dx its n).cls := fun e => by
  have e2 : (instL C dx its n).cls = .ref C := rfl
  rw [e2] at e
  rcases h with h | h <;> (rw [h] at e; cases e)
theorem keep_off {P : Params} {g h : Heap} {L' I x dx R D : Addr} {oI : PySem.Obj} {t1 t2 : Tok} {its a b : Array Value} {n k1 k2 : Nat} {tl : List (Addr × PySem.Obj)}
    (N : News g L' h ((I, oI) :: (x, instL 122 dx its n) :: (dx, pileDict P t1 t2) :: (R, listOf a k1) :: (D, listOf b k2) :: tl))
    (hoff : ∀ p ∈ ((x, instL 122 dx its n) :: (dx, pileDict P t1 t2) :: (R, listOf a k1) :: (D, listOf b k2) :: tl), p.1 ≠ I) (hta : TupAll tl) :
    ∀ p ∈ ((I, oI) :: (R, listOf a k1) :: (D, listOf b k2) :: tl), p.1 ∉ [(x, instL 122 dx its n), (dx, pileDict P t1 t2)].map (·.1) := by
  have hx := hoff _ (.head _)
  have hd := hoff _ (.tail _ (.head _))
  have key : ∀ p ∈ ((R, listOf a k1) :: (D, listOf b k2) :: tl), p.1 ≠ x ∧ p.1 ≠ dx := fun p hp => by
    have hc : p.2.cls = .type "list" ∨ p.2.cls = .type "tuple" := by
      rcases List.mem_cons.mp hp with rfl | hp
      · exact .inl rfl
      rcases List.mem_cons.mp hp with rfl | hp
      · exact .inl rfl
      obtain ⟨u, v, e⟩ := hta p hp
      rw [e]; exact .inr rfl
    have hm : (p.1, p.2) ∈ ((I, oI) :: (x, instL 122 dx its n) :: (dx, pileDict P t1 t2) :: (R, listOf a k1) :: (D, listOf b k2) :: tl) := .tail _ (.tail _ (.tail _ hp))
    exact ⟨two_off N hm (.tail _ (.head _)) (inst_ne hc), two_off N hm (.tail _ (.tail _ (.head _))) (dict_ne hc)⟩
  intro p hp hm
  have hm : p.1 = x ∨ p.1 = dx := by simpa using hm
  rcases List.mem_cons.mp hp with rfl | hp
  · rcases hm with e | e
    · exact hx e.symm
    · exact hd e.symm
  · rcases hm with e | e
    · exact (key p hp).1 e
    · exact (key p hp).2 e
theorem hid_part {g h : Heap} {L' : Addr} {a b c : Addr × PySem.Obj} {l : List (Addr × PySem.Obj)} (N : News g L' h (a :: b :: c :: l)) : News g L' h [b, c] := fun p hp => N p (by
  rcases List.mem_cons.mp hp with rfl | hp
  · exact .tail _ (.head _)
  · rw [List.mem_singleton.mp hp]; exact .tail _ (.tail _ (.head _)))
theorem keep_part {g h : Heap} {L' : Addr} {a b c : Addr × PySem.Obj} {l : List (Addr × PySem.Obj)} (N : News g L' h (a :: b :: c :: l)) : News g L' h (a :: l) := fun p hp => N p (by
  rcases List.mem_cons.mp hp with rfl | hp
  · exact .head _
  · exact .tail _ (.tail _ (.tail _ hp)))
theorem glob_name {prog : Program} {w : World} {A : Around} {E : Value → Shared → Prop} {s : Shared} {env : Env} {K : Frag} {p : Program} {loose : List Str} {mean : ExcName → Option Value} {mg mb : Str → Option Value} {C : Addr} {g : Heap} {m : Str → Option Value} {x : Str} {v : Value} {pos : Pos} {Q : Value → Shared → Prop}
    (F : Fr g C s.heap m) (X : K.In g) (T : Top p loose mean mg mb g) (e : nsIn K mainGlobals x = some (some v)) (h : Q v s) (hge : env.globals = mainGlobals)
    (hx : env.kindOf x = some .globalImplicit) (hk : env.scope.kind = .function := by rfl) (hd : (x == ("__debug__" : Str)) = false := by decide) :
    wpAny (model prog w) A (eval (.Name x pos) env) Q E s :=
  Name_function_global hk hx (loadGlobal_global (env := env) (by rw [hge]; exact T.g.keeps F.keep) (mg_of X T.g e) h) hd
noncomputable def SnJ (x R NM I : Addr) (oI : PySem.Obj) (rest : List (Addr × PySem.Obj)) (gv bv : Value) (at' sn : Int) (ta : Tok) (m : Str → Option Value) (nx : List (Addr × PySem.Obj)) : Prop :=
  ∃ (ts : Tok) (u : Str → Option Value), m = mp [("pile", .ref x), ("row", .ref R), ("numbers", .ref NM), ("goes", gv), ("beside", bv), ("at", .int at' ta), ("seen", .int sn ts)] u ∧ nx = (I, oI) :: rest
end Mine
theorem Mine.top_off_Q2 : True := by
  w_top off
  trivial
section
local macro_rules | `(tactic| walk_at "no word 6 0") => `(tactic| skip)
local macro_rules | `(tactic| walk_at "no word 6 1") => `(tactic| skip)
local macro_rules | `(tactic| walk_at "no word 6 2") => `(tactic| skip)
local macro_rules | `(tactic| walk_at "no word 6 3") => `(tactic| skip)
local macro_rules | `(tactic| walk_at "no word 6 4") => `(tactic| skip)
namespace Mine
local macro_rules | `(tactic| walk_at "call type:range") => `(tactic| ((with_reducible show wpAny _ _ (call (Value.type _) [Value.int _ _]) _ _ _); (rename Fr _ _ _ _ => F'); (rename News _ _ _ _ => N'); (with_unfolding_all refine range1_rows F' N' ?_); intro _ _ _ _ _ _ _ _ _))
noncomputable def numOf (nms : List (Str × Tok)) (j : Nat) : Int := (((opN ((nms.map (·.1.cps.toList)).getD j [])).getD 0 : Nat) : Int)
set_option maxRecDepth 100000 in
set_option maxHeartbeats 8000000 in
theorem change_spec (w : World) (x dx : Addr) (rv : List Value) (n : Nat) (t1 t2 : Tok) (tl : List (Addr × PySem.Obj)) (nms : List (Str × Tok)) (rz : List (Bool × Nat)) (s : Shared) (hdx : dx ≠ x) (hta : TupAll tl) (htl : ∀ p ∈ tl, s.heap.get? p.1 = some p.2)
    (hrw : TwoAll tl (rowF nms) rv rz) (hn : rz.length ≤ 5) (hop : ∀ q ∈ nms, ∃ k, opN q.1.cps.toList = some k) :
    Spec w 153 [.ref x] [(x, instL 122 dx rv.toArray n), (dx, pileDict w.params t1 t2)] s (fun v nl => ∃ (pv : List Value) (np : Nat) (tl' : List (Addr × PySem.Obj)), v = .bool (changeZ (numOf nms) rz).1 ∧ nl = (x, instL 122 dx pv.toArray np) :: (dx, pileDict w.params t1 t2) :: tl' ∧ TupAll tl' ∧ TwoAll tl' (rowF nms) pv (changeZ (numOf nms) rz).2) := by
  unfold Spec SpecA
  k_fill
  intro e p loose mean mg mb env outer A₀ base h₀ L m Q E B F X N T hA hf hke hret
  (refine' fn_enter _ _ B F X N T hA hf hke hret ?k6 ?k7 ?k8 ?k9 ?kB ?_ ?c2 ?c3 ?c4 ?c5; (case k6 => k_is); (case k7 => k_is); (case k8 => k_room); (case k9 => exact BindsTo.of_eq rfl); (case c5 => decide); (case kB => exact locs rfl); (case c2 => exact rfl); (case c3 => exact rfl); (case c4 => exact rfl))
  clear hret F B X
  intro g L' h₁ hg F' N' B' X' T' hlt
  (try dsimp only)
  try k_fold
  lgec_go
  rename Fr _ _ _ _ => F1
  rename News _ _ _ _ => N1
  refine method_fnL (X'.keeps F1.keep) ⟨(N1 _ (.head _)).1, rfl, rfl, (N1 _ (.tail _ (.head _))).1⟩ (pile_ga _) (pile_getattr _) (pile_popf _) (pile_popf_t _) (shadow_popf _ _ _) ?_
  lge_go0
  dsimp only [List.append_nil]
  refine pop_specA w x dx rv.toArray n t1 t2 _ _ (by k_room) (by rw [List.size_toArray, hrw.len]; omega) hdx _ _ _ _ _ _ _ _ _ _ _ _ _ _ B' F1 X' N1 T' (Around.frames_deeper hA) rfl rfl ?_
  rintro v nl h2 tk2 F2 K2 hn2 ⟨R, n2, rfl, rfl⟩
  have N2 := news_hid F1 N1 hn2
  dsimp only
  lge_go0
  rename Fr _ _ _ _ => F3
  rename News _ _ _ _ => N3
  have hT : ∀ p ∈ tl, g.get? p.1 = some p.2 := fun p hp => by
    refine hg _ _ (fun hm => ?_) (htl p hp)
    obtain ⟨xx, yy, e⟩ := hta p hp
    have key : ∀ o : PySem.Obj, (p.1, o) ∈ [(x, instL 122 dx rv.toArray n), (dx, pileDict w.params t1 t2)] → o = tupO xx yy := fun o ho => by
      have h1 := (N _ ho).1
      dsimp only at h1
      rw [htl p hp, e] at h1
      exact (Option.some.inj h1).symm
    rcases List.mem_cons.mp hm with hm | hm
    · have := key (instL 122 dx rv.toArray n) (by rw [hm]; exact .head _)
      cases this
    · have := key (pileDict w.params t1 t2) (by rw [List.mem_singleton.mp hm]; exact .tail _ (.head _))
      have e2 : Value.type "dict" = .type "tuple" := congrArg PySem.Obj.cls this
      injection e2 with e2
      exact absurd e2 (by decide)
  refine comp_one (cl := []) F3 (fun i v => ∃ q tk, rz[i]? = some q ∧ v = .int (numOf nms q.2) tk) rz.length rfl (by with_unfolding_all rfl) (by with_unfolding_all rfl) (by decide) rfl (by decide) (by with_unfolding_all rfl) (by with_unfolding_all rfl) (by decide) (by with_unfolding_all rfl) (by with_unfolding_all rfl) ?_ (fun _ => by with_unfolding_all rfl)
  lge_go0
  refine ⟨R, rv, _, _, rfl, ⟨_, (N3 _ (.head _)).1, rfl, _, rfl⟩, F3, N3, hrw.len, by omega, ?_, ?_⟩
  · intro i v hv
    obtain ⟨q, T, xx, z, hq, rfl, hm, ⟨ta, rfl⟩, nm, tb, tc, hnm, rfl⟩ := hrw.get hv
    refine ⟨T, _, _, rfl, F3.keep _ _ (hT _ hm), fun C s₃ m₃ E' F₃ h1 h2 => ?_⟩
    obtain ⟨k, hk⟩ := hop _ (List.mem_of_getElem? hnm)
    refine Subscript_Name (comp_global F₃ (X'.keeps F3.keep) (T'.keeps F3.keep) (by k_is) (comp_local F₃ h2 (op_item ((X'.keeps F3.keep).keeps F₃.keep) hk fun tk => ?_) rfl) rfl (by with_unfolding_all rfl))
    refine ⟨⟨q, tk, hq, ?_⟩, _, _, rfl, fun _ _ h => h⟩
    unfold numOf
    rw [List.getD_eq_getElem?_getD, List.getElem?_map, hnm]
    show Value.int (k : Int) tk = Value.int (((opN nm.cps.toList).getD 0 : Nat) : Int) tk
    rw [hk]; rfl
  · rintro D h5 tk5 ys kN F5 N5 hDo hyl hyz
    try dsimp only
    lge_go0
    rename Fr _ _ _ _ => F6
    rename News _ _ _ _ => N6
    obtain ⟨NN, hNN⟩ : ∃ NN, (rz.map fun q => numOf nms q.2) = NN := ⟨_, rfl⟩
    have hnum : ∀ j, j < rz.length → ∃ tn, ys[j]? = some (.int (NN.getD j 0) tn) := fun j hj => by
      obtain ⟨v, hv⟩ : ∃ v, ys[j]? = some v := ⟨_, List.getElem?_eq_getElem (by omega)⟩
      obtain ⟨q, tq, hq, rfl⟩ := hyz j v hv
      refine ⟨tq, ?_⟩
      rw [hv, ← hNN, List.getD_eq_getElem?_getD, List.getElem?_map, hq]
      rfl
    clear hyz
    refine exec_cut F6 (ChJ x R D [(D, listOf ys.toArray kN), (R, listOf rv.toArray 0), (x, instL 122 dx #[] n2), (dx, pileDict w.params t1 t2)] rz NN rz.length) ?_ ?_
    · refine For_invVF F6 (by with_unfolding_all rfl) (by with_unfolding_all rfl) ?_ (fun _ => by with_unfolding_all rfl) PassesOwn.never
      lgec_go
      refine len_list ⟨_, (N6 _ (.tail _ (.head _))).1, rfl, _, rfl⟩ (by rw [List.size_toArray, hrw.len]; omega) ?_
      rw [List.size_toArray, hrw.len]
      lge_go0
      rename IsRange _ _ _ _ _ _ _ _ => hr
      rename Fr _ _ _ _ => F7
      rename News _ _ _ _ => N7
      refine iter_range (n := rz.length) (ChJ x R D [(D, listOf ys.toArray kN), (R, listOf rv.toArray 0), (x, instL 122 dx #[] n2), (dx, pileDict w.params t1 t2)] rz NN) rfl hr (small_one (by omega) (by omega) (by omega) (by omega)) (by rw [rangeSize_one]; split <;> omega) F7 N7 ?_ ?_ ?_
      · exact ⟨_, _, _, mp_of ⟨by with_unfolding_all rfl, by with_unfolding_all rfl, by with_unfolding_all rfl, by with_unfolding_all rfl, by with_unfolding_all rfl, trivial⟩, rfl, rfl, rfl, fun _ _ e => nomatch e⟩
      · rintro i t m₁ nx h tk I oI hi ⟨gv, bv, u, rfl, rfl, hgv, hbv, hroom⟩ hoff F₃ N₃
        dsimp only
        have hiv : i < rv.length := by rw [hrw.len]; exact hi
        obtain ⟨v, hv⟩ : ∃ v, rv[i]? = some v := ⟨_, List.getElem?_eq_getElem hiv⟩
        obtain ⟨q, T, xx, z, hq, rfl, hm, ⟨ta, rfl⟩, nm, tb, tc, hnm, rfl⟩ := hrw.get hv
        have hTup : IsTup h T #[.str (look q.1) ta, .str nm tb] := ⟨_, F₃.keep _ _ (hT _ hm), rfl, _, rfl⟩
        obtain ⟨st, hst⟩ : ∃ st, (List.range i).foldl (goStep rz NN) none = st := ⟨_, rfl⟩
        have hst1 : (List.range (i + 1)).foldl (goStep rz NN) none = goStep rz NN st i := by rw [List.range_succ, List.foldl_append, hst]; rfl
        rw [hst] at hgv hbv
        have hroom : ∀ g b, st = some (g, b) → g < rz.length ∧ b < rz.length := fun g b e => hroom g b (hst.trans e)
        clear hst
        have hst2 := goStep_room (N := NN) (st := st) hi hroom
        obtain ⟨sn, hsn⟩ : ∃ sn, seenZ (rz.getD i (false, 0)).1 i = sn := ⟨_, rfl⟩
        have hvl := hrw.len
        clear hlt K2 hn2 F5 N5 hr hrw hop N hta htl hm
        refine execs_cut F₃ (SnJ x R D I oI [(D, listOf ys.toArray kN), (R, listOf rv.toArray 0), (x, instL 122 dx #[] n2), (dx, pileDict w.params t1 t2)] gv bv (0 + (i : Int) * 1) sn t) ?_ ?_
        · lgec_go
          refine item_listL (l := rv) (x := .ref T) (N₃.isList (.tail _ (.tail _ (.head _)))) (by omega) (by omega) (by rw [show (0 + (i : Int) * 1).toNat = i by omega]; exact hv) ?_
          lge_go0
          all_goals (
            rename (look _ == _) = _ => hlk
            rw [look_tab] at hlk
            rename Fr _ _ _ _ => F8
            rename News _ _ _ _ => N8
            have hs2 := by first | exact (seen_t hq hlk).symm.trans hsn | exact (seen_f hq hlk).symm.trans hsn
            subst hs2
            exact Nxt.intro F8 N8 ⟨_, _, mp_of ⟨rfl, rfl, rfl, rfl, rfl, rfl, rfl, trivial⟩, rfl⟩)
        · rintro h6 tk6 m6 nx6 F6 N6 ⟨ts, u, rfl, rfl⟩
          dsimp only
          clear N₃ F₃ hTup
          lgec_go
          · refine len_list ⟨_, (N6 _ (.tail _ (.tail _ (.head _)))).1, rfl, _, rfl⟩ (by rw [List.size_toArray, hvl]; omega) ?_
            rw [List.size_toArray, hvl]
            lgec_go
            · obtain ⟨tn, htn⟩ := hnum sn.toNat (by omega)
              refine item_listL (l := ys) (N6.isList (.tail _ (.head _))) (by omega) (by omega) htn ?_
              obtain ⟨tm, htm⟩ := hnum (0 + (i : Int) * 1).toNat (by omega)
              lgec_go
              refine item_listL (l := ys) (N6.isList (.tail _ (.head _))) (by omega) (by omega) htm ?_
              rw [show (0 + (i : Int) * 1).toNat = i by omega]
              lge_go0
              · rename NN.getD _ 0 < _ => hlt
                cases st with
                | none =>
                  cases hgv
                  cases hbv
                  lge_go0
                  rename Fr _ _ _ _ => F8
                  rename News _ _ _ _ => N8
                  have hgo : goStep rz NN none i = some (i, sn.toNat) := go_set_none hsn ⟨by omega, by omega, hlt⟩
                  exact ch_turn _ F8 N8 hoff ⟨rfl, rfl, rfl, rfl, rfl, trivial⟩ (hst1.trans hgo) ⟨_, by congr 1; dsimp only; omega⟩ ⟨_, by congr 1; dsimp only; omega⟩ fun g b e => hst2 g b (hgo.trans e)
                | some gb =>
                  obtain ⟨gg, bb⟩ := gb
                  obtain ⟨tg, rfl⟩ : ∃ t, gv = .int (gg : Int) t := hgv
                  obtain ⟨tb2, rfl⟩ : ∃ t, bv = .int (bb : Int) t := hbv
                  obtain ⟨hgl, hbl⟩ := hroom gg bb rfl
                  obtain ⟨tn3, htn3⟩ := hnum gg hgl
                  obtain ⟨tm3, htm3⟩ := hnum (0 + (i : Int) * 1).toNat (by omega)
                  lgec_go
                  refine item_listL (l := ys) (N6.isList (.tail _ (.head _))) (by omega) (by omega) htn3 ?_
                  lgec_go
                  refine item_listL (l := ys) (N6.isList (.tail _ (.head _))) (by omega) (by omega) htm3 ?_
                  rw [show (0 + (i : Int) * 1).toNat = i by omega]
                  lge_go0
                  · rename NN.getD gg 0 < _ => hlt2
                    rename Fr _ _ _ _ => F8
                    rename News _ _ _ _ => N8
                    have hgo : goStep rz NN (some (gg, bb)) i = some (i, sn.toNat) := go_set_some hsn ⟨by omega, by omega, hlt⟩ hlt2
                    exact ch_turn _ F8 N8 hoff ⟨rfl, rfl, rfl, rfl, rfl, trivial⟩ (hst1.trans hgo) ⟨_, by congr 1; dsimp only; omega⟩ ⟨_, by congr 1; dsimp only; omega⟩ fun g b e => hst2 g b (hgo.trans e)
                  · rename ¬ NN.getD gg 0 < _ => hlt2
                    have hgo : goStep rz NN (some (gg, bb)) i = some (gg, bb) := go_keep_some hsn hlt2
                    exact ch_turn _ F6 N6 hoff ⟨rfl, rfl, rfl, rfl, rfl, trivial⟩ (hst1.trans hgo) ⟨_, rfl⟩ ⟨_, rfl⟩ hroom
              · rename ¬ NN.getD _ 0 < _ => hlt
                have hgo : goStep rz NN st i = st := go_no hsn fun q => hlt q.2.2
                exact ch_turn st F6 N6 hoff ⟨rfl, rfl, rfl, rfl, rfl, trivial⟩ (hst1.trans hgo) hgv hbv hroom
            · rename ¬ sn < (rz.length : Int) => hlt
              have hgo : goStep rz NN st i = st := go_no hsn fun q => hlt q.2.1
              exact ch_turn st F6 N6 hoff ⟨rfl, rfl, rfl, rfl, rfl, trivial⟩ (hst1.trans hgo) hgv hbv hroom
          · rename ¬ 0 ≤ sn => hlt
            have hgo : goStep rz NN st i = st := go_no hsn fun q => hlt q.1
            exact ch_turn st F6 N6 hoff ⟨rfl, rfl, rfl, rfl, rfl, trivial⟩ (hst1.trans hgo) hgv hbv hroom
      · rintro m₁ nx h tk hJ F8 N8
        exact Nxt.intro F8 N8 hJ
    · rintro h7 tk7 m7 nx7 F7 N7 ⟨gv, bv, u, rfl, rfl, hgv, hbv, hroom⟩
      try dsimp only
      obtain ⟨st, hst⟩ : ∃ st, (List.range rz.length).foldl (goStep rz NN) none = st := ⟨_, rfl⟩
      rw [hst] at hgv hbv hroom
      clear F6 N6 F5 N5
      have hDR : R ≠ D := hDo _ (.head _)
      have hDR : D ≠ R := fun e => hDR e.symm
      have hxR : x ≠ R := two_off N7 (.tail _ (.tail _ (.head _))) (.tail _ (.head _)) (fun e => nomatch e)
      have hdR : dx ≠ R := two_off N7 (.tail _ (.tail _ (.tail _ (.head _)))) (.tail _ (.head _)) (fun e => by
        have e : Value.type "dict" = .type "list" := e
        injection e with e
        exact absurd e (by decide))
      have hxdR : ∀ p ∈ [(x, instL 122 dx #[] n2), (dx, pileDict w.params t1 t2)], p.1 ≠ R := fun p hp => by
        rcases List.mem_cons.mp hp with rfl | hp
        · exact hxR
        · rw [List.mem_singleton.mp hp]; exact hdR
      refine execs_cut F7 (SwJ x R D (listOf ys.toArray kN) [(x, instL 122 dx #[] n2), (dx, pileDict w.params t1 t2)] tl nms (swapZ rz st) gv) ?_ ?_
      · lge_go0
        cases st with
        | none =>
          cases hgv
          lge_go0
          exact Nxt.intro F7 N7 ⟨rv, _, _, mp_of ⟨rfl, rfl, rfl, rfl, trivial⟩, rfl, hrw⟩
        | some gb =>
          obtain ⟨gg, bb⟩ := gb
          obtain ⟨tg, rfl⟩ : ∃ t, gv = .int (gg : Int) t := hgv
          obtain ⟨tb2, rfl⟩ : ∃ t, bv = .int (bb : Int) t := hbv
          obtain ⟨hgl, hbl⟩ := hroom gg bb rfl
          obtain ⟨v1, hv1⟩ : ∃ v, rv[gg]? = some v := ⟨_, List.getElem?_eq_getElem (by rw [hrw.len]; exact hgl)⟩
          obtain ⟨v2, hv2⟩ : ∃ v, rv[bb]? = some v := ⟨_, List.getElem?_eq_getElem (by rw [hrw.len]; exact hbl)⟩
          obtain ⟨q1, T1, x1, y1, hq1, rfl, hm1, hr1⟩ := hrw.get hv1
          obtain ⟨q2, T2, x2, y2, hq2, rfl, hm2, hr2⟩ := hrw.get hv2
          lgec_go
          refine item_listL (l := rv) (N7.isList (.tail _ (.head _))) (by omega) (by omega) hv1 ?_
          lgec_go
          rename Fr _ _ _ _ => F8
          rename News _ _ _ _ => N8
          refine item_listL (l := rv) (N8.isList (.tail _ (.head _))) (by omega) (by omega) hv2 ?_
          lge_go0
          refine set_L (pre := [(D, listOf ys.toArray kN)]) (its := rv) F8 N8 (fun p hp => by rw [List.mem_singleton.mp hp]; exact hDR) hxdR (by omega) (by rw [hrw.len]; omega) (by rw [hrw.len]; omega) fun h9 F9 N9 => ?_
          dsimp only
          lge_go0
          refine set_L (pre := [(D, listOf ys.toArray kN)]) (its := rv.set _ _) F9 N9 (fun p hp => by rw [List.mem_singleton.mp hp]; exact hDR) hxdR (by omega) (by rw [List.length_set, hrw.len]; omega) (by rw [List.length_set, hrw.len]; omega) fun h10 F10 N10 => ?_
          dsimp only
          lge_go0
          refine Nxt.intro F10 N10 ⟨_, _, _, mp_of ⟨rfl, rfl, rfl, rfl, trivial⟩, rfl, ?_⟩
          show TwoAll tl (rowF nms) _ ((rz.set gg (rz.getD bb (false, 0))).set bb (rz.getD gg (false, 0)))
          rw [List.getD_eq_getElem?_getD, List.getD_eq_getElem?_getD, hq1, hq2]
          exact TwoAll.set hm1 hr1 _ (TwoAll.set hm2 hr2 _ hrw)
      · rintro h8 tk8 m8 nx8 F8 N8 ⟨rv2, k2, u, rfl, rfl, hrw2⟩
        replace N8 : News g L' h8 [(x, instL 122 dx #[] n2), (dx, pileDict w.params t1 t2), (R, listOf rv2.toArray k2), (D, listOf ys.toArray kN)] := fun p hp => N8 p (by simp only [List.mem_cons, List.not_mem_nil, or_false] at hp ⊢; rcases hp with h | h | h | h <;> simp [h])
        dsimp only
        have hzl : (swapZ rz st).length = rz.length := by cases st <;> simp [swapZ]
        refine execs_cut F8 (FnJ w.params x dx R D t1 t2 (listOf ys.toArray kN) (listOf rv2.toArray k2) nms ((swapZ rz st).map (flipZ (numOf nms) NN st)) gv rz.length) ?_ ?_
        · refine For_invTF F8 ?_ (fun _ => by with_unfolding_all rfl) PassesOwn.never
          lge_go0
          refine iter_list (listOf rv2.toArray k2) (FnJ w.params x dx R D t1 t2 (listOf ys.toArray kN) (listOf rv2.toArray k2) nms ((swapZ rz st).map (flipZ (numOf nms) NN st)) gv) rfl rfl ⟨_, rfl⟩ F8 N8 (.inr ?_) ?_ ?_ ?_
          · rintro i m nx ⟨pv, np, tl', u, _, rfl, _, _⟩
            exact .tail _ (.tail _ (.head _))
          · exact ⟨[], _, [], _, mp_of ⟨by with_unfolding_all rfl, by with_unfolding_all rfl, by with_unfolding_all rfl, by with_unfolding_all rfl, trivial⟩, rfl, (fun _ h => nomatch h), trivial⟩
          · rintro i v m₁ nx s₁ I oI hv ⟨pv, np, tl', u, rfl, rfl, hta', htw'⟩ hoff F₃ N₃
            obtain ⟨q, T, xx, z, hq, rfl, hm, ⟨ta, rfl⟩, nm, tb, tc, hnm, rfl⟩ := hrw2.get hv
            have hTup : IsTup s₁.heap T #[.str (look q.1) ta, .str nm tb] := ⟨_, F₃.keep _ _ (hT _ hm), rfl, _, rfl⟩
            clear hlt K2 hn2
            lge_go0
            rename Fr _ _ _ _ => F4
            rename News _ _ _ _ => N4
            have hps : pv.toArray.size ≤ 1000 := by
              have := htw'.len
              rw [List.length_take, List.length_map, hzl] at this
              rw [List.size_toArray]; omega
            cases st with
            | none =>
              cases hgv
              lgec_go
              refine method_fnL (X'.keeps F4.keep) ⟨(N4 _ (.tail _ (.head _))).1, rfl, rfl, (N4 _ (.tail _ (.tail _ (.head _)))).1⟩ (pile_ga _) (pile_getattr _) (pile_push _) (pile_push_t _) (shadow_push _ _ _) ?_
              lge_go0
              refine push_specA w x dx pv.toArray np t1 t2 _ _ _ _ (by k_room) hps hdx _ _ _ _ _ _ _ _ _ _ _ _ _ _ B' F4 X' (hid_part N4) T' (Around.frames_deeper hA) rfl rfl ?_
              rintro v nl h5 tk5 F5 K5 hn5 ⟨T2, rfl, rfl⟩
              obtain ⟨N5, hd5⟩ := news_call F4 (hid_part N4) (keep_part N4) (keep_off N4 hoff hta') K5 hn5
              dsimp only
              lge_go0
              exact fin_turn (b := q.1) (j := q.2) (tc := tc) F5 ⟨rfl, rfl, rfl, rfl, trivial⟩ N5 hd5 (fun p hp => hoff p (.tail _ (.tail _ hp))) hta' htw' (by rw [List.getElem?_map, hq]; rfl) hnm
            | some gb =>
              obtain ⟨gg, bb⟩ := gb
              obtain ⟨tg, rfl⟩ : ∃ t, gv = .int (gg : Int) t := hgv
              obtain ⟨hgl, hbl⟩ := hroom gg bb rfl
              obtain ⟨tn, htn⟩ := hnum gg hgl
              obtain ⟨k, hk⟩ := hop _ (List.mem_of_getElem? hnm)
              have hnk : numOf nms q.2 = (k : Int) := by
                unfold numOf
                rw [List.getD_eq_getElem?_getD, List.getElem?_map, hnm]
                show (((opN nm.cps.toList).getD 0 : Nat) : Int) = _
                rw [hk]; rfl
              lge_go
              refine Subscript_Name (glob_name F4 X' T' (by k_is) (ld F4 (by with_unfolding_all rfl) (op_item (X'.keeps F4.keep) hk fun tk => ?_)) (by with_unfolding_all rfl) (by with_unfolding_all rfl))
              lgec_go
              refine item_listL (l := ys) (N4.isList (.tail _ (.tail _ (.tail _ (.tail _ (.head _)))))) (by omega) (by omega) htn ?_
              lgec_go
              · rename NN.getD gg _ < _ => hgt
                have hfl : flipZ (numOf nms) NN (some (gg, bb)) q = (!q.1, q.2) := by
                  show (if numOf nms q.2 > NN.getD gg 0 then (!q.1, q.2) else q) = _
                  rw [hnk]
                  exact if_pos hgt
                refine method_fnL (X'.keeps F4.keep) ⟨(N4 _ (.tail _ (.head _))).1, rfl, rfl, (N4 _ (.tail _ (.tail _ (.head _)))).1⟩ (pile_ga _) (pile_getattr _) (pile_push _) (pile_push_t _) (shadow_push _ _ _) ?_
                lge_go
                · rename (look _ == _) = _ => hlk
                  rw [look_tab] at hlk
                  refine push_specA w x dx pv.toArray np t1 t2 _ _ _ _ (by k_room) hps hdx _ _ _ _ _ _ _ _ _ _ _ _ _ _ B' F4 X' (hid_part N4) T' (Around.frames_deeper hA) rfl rfl ?_
                  rintro v nl h5 tk5 F5 K5 hn5 ⟨T2, rfl, rfl⟩
                  obtain ⟨N5, hd5⟩ := news_call F4 (hid_part N4) (keep_part N4) (keep_off N4 hoff hta') K5 hn5
                  dsimp only
                  lge_go
                  exact fin_turn (b := false) (j := q.2) (tc := tc) F5 ⟨rfl, rfl, rfl, rfl, trivial⟩ N5 hd5 (fun p hp => hoff p (.tail _ (.tail _ hp))) hta' htw' (by rw [List.getElem?_map, hq]; exact (congrArg some hfl).trans (by rw [hlk]; rfl)) hnm
                · rename (look _ == _) = _ => hlk
                  rw [look_tab] at hlk
                  refine push_specA w x dx pv.toArray np t1 t2 _ _ _ _ (by k_room) hps hdx _ _ _ _ _ _ _ _ _ _ _ _ _ _ B' F4 X' (hid_part N4) T' (Around.frames_deeper hA) rfl rfl ?_
                  rintro v nl h5 tk5 F5 K5 hn5 ⟨T2, rfl, rfl⟩
                  obtain ⟨N5, hd5⟩ := news_call F4 (hid_part N4) (keep_part N4) (keep_off N4 hoff hta') K5 hn5
                  dsimp only
                  lge_go
                  exact fin_turn (b := true) (j := q.2) (tc := tc) F5 ⟨rfl, rfl, rfl, rfl, trivial⟩ N5 hd5 (fun p hp => hoff p (.tail _ (.tail _ hp))) hta' htw' (by rw [List.getElem?_map, hq]; exact (congrArg some hfl).trans (by rw [hlk]; rfl)) hnm
              · rename ¬ NN.getD gg _ < _ => hgt
                have hfl : flipZ (numOf nms) NN (some (gg, bb)) q = q := by
                  show (if numOf nms q.2 > NN.getD gg 0 then (!q.1, q.2) else q) = _
                  rw [hnk]
                  exact if_neg hgt
                refine method_fnL (X'.keeps F4.keep) ⟨(N4 _ (.tail _ (.head _))).1, rfl, rfl, (N4 _ (.tail _ (.tail _ (.head _)))).1⟩ (pile_ga _) (pile_getattr _) (pile_push _) (pile_push_t _) (shadow_push _ _ _) ?_
                lge_go
                refine push_specA w x dx pv.toArray np t1 t2 _ _ _ _ (by k_room) hps hdx _ _ _ _ _ _ _ _ _ _ _ _ _ _ B' F4 X' (hid_part N4) T' (Around.frames_deeper hA) rfl rfl ?_
                rintro v nl h5 tk5 F5 K5 hn5 ⟨T2, rfl, rfl⟩
                obtain ⟨N5, hd5⟩ := news_call F4 (hid_part N4) (keep_part N4) (keep_off N4 hoff hta') K5 hn5
                dsimp only
                lge_go
                exact fin_turn (b := q.1) (j := q.2) (tc := tc) F5 ⟨rfl, rfl, rfl, rfl, trivial⟩ N5 hd5 (fun p hp => hoff p (.tail _ (.tail _ hp))) hta' htw' (by rw [List.getElem?_map, hq]; exact congrArg some hfl) hnm
          · rintro m₁ nx h tk hJ F9 N9
            rw [hrw2.len, hzl] at hJ
            exact Nxt.intro F9 N9 hJ
        · rintro h9 tk9 m9 nx9 F9 N9 ⟨pv, np, tl', u, rfl, rfl, hta', htw'⟩
          dsimp only
          rw [List.take_of_length_le (by rw [List.length_map, hzl]; exact Nat.le_refl _)] at htw'
          have hch : changeZ (numOf nms) rz = (st.isSome, (swapZ rz st).map (flipZ (numOf nms) NN st)) := by
            have := changeZ_is (numOf nms) rz st (by rw [hNN]; exact hst)
            rwa [hNN] at this
          refine wpAny_execs_cons (wpAny_Return_some (wpAny_mono (Q := fun v s' => v = .bool st.isSome ∧ ∃ tk', s' = { s with heap := h9, toks := tk' }) (E := fun _ _ => False) ?_ (fun v s' hv => ?_) fun _ _ z => z.elim))
          · cases st with
            | none =>
              cases hgv
              lge_go0
            | some gb =>
              obtain ⟨gg, bb⟩ := gb
              obtain ⟨tg, rfl⟩ : ∃ t, gv = .int (gg : Int) t := hgv
              lge_go0
          · obtain ⟨rfl, tk10, rfl⟩ := hv
            exact ⟨_, (x, instL 122 dx pv.toArray np) :: (dx, pileDict w.params t1 t2) :: tl', F9, (fun p hp => N9 p (by
              rcases List.mem_cons.mp hp with rfl | hp
              · exact .head _
              rcases List.mem_cons.mp hp with rfl | hp
              · exact .tail _ (.head _)
              · exact .tail _ (.tail _ (.tail _ (.tail _ hp))))), ⟨pv, np, tl', by rw [hch], rfl, hta', by rw [hch]; exact htw'⟩, _, _, rfl⟩
end Mine
end
theorem Mine.top_off_L1 : True := by
  w_top off
  trivial
set_option maxRecDepth 100000
namespace Mine
noncomputable def fac : Nat → Nat
  | 0 => 1
  | k + 1 => fac k * (k + 1)
noncomputable def changeOk (n : Nat) : Bool := (List.range (fac n)).all fun h =>
  changeZ (fun j => (j : Int)) (rowZ (h : Int) n) == (decide (h + 1 < fac n), rowZ ((min (h + 1) (fac n - 1) : Nat) : Int) n)
theorem changeOk_3 : changeOk 3 = true := by decide +kernel
theorem changeOk_4 : changeOk 4 = true := by decide +kernel
theorem changeOk_5 : changeOk 5 = true := by decide +kernel
theorem rows_small (n : Nat) (h1 : 3 ≤ n) (h2 : n ≤ 5) : n = 3 ∨ n = 4 ∨ n = 5 := by omega
theorem change_rank {n h : Nat} (h1 : 3 ≤ n) (h2 : n ≤ 5) (hh : h < fac n) :
    changeZ (fun j => (j : Int)) (rowZ (h : Int) n) = (decide (h + 1 < fac n), rowZ ((min (h + 1) (fac n - 1) : Nat) : Int) n) := by
  have key : ∀ n, changeOk n = true → h < fac n → changeZ (fun j => (j : Int)) (rowZ (h : Int) n) = (decide (h + 1 < fac n), rowZ ((min (h + 1) (fac n - 1) : Nat) : Int) n) := fun n e q =>
    eq_of_beq (List.all_eq_true.mp e h (List.mem_range.mpr q))
  rcases rows_small n h1 h2 with rfl | rfl | rfl
  · exact key _ changeOk_3 hh
  · exact key _ changeOk_4 hh
  · exact key _ changeOk_5 hh
section
variable {rz : List (Bool × Nat)} {N M : List Int}
theorem goStep_nat (hNM : ∀ i j, i < rz.length → j < rz.length → (N.getD i 0 < N.getD j 0 ↔ M.getD i 0 < M.getD j 0)) {st : Option (Nat × Nat)} {a : Nat} (ha : a < rz.length) (h : ∀ g b, st = some (g, b) → g < rz.length ∧ b < rz.length) :
    goStep rz N st a = goStep rz M st a := by
  unfold goStep
  dsimp only
  by_cases hc : 0 ≤ seenZ (rz.getD a (false, 0)).1 a ∧ seenZ (rz.getD a (false, 0)).1 a < (rz.length : Int)
  · have hs : (seenZ (rz.getD a (false, 0)).1 a).toNat < rz.length := by omega
    simp only [hc, true_and, hNM _ _ hs ha]
    split
    · cases st with
      | none => rfl
      | some p =>
        obtain ⟨g, b⟩ := p
        dsimp only
        simp only [hNM _ _ (h g b rfl).1 ha]
    · rfl
  · rw [if_neg (fun q => hc ⟨q.1, q.2.1⟩), if_neg (fun q => hc ⟨q.1, q.2.1⟩)]
theorem goFold_nat (hNM : ∀ i j, i < rz.length → j < rz.length → (N.getD i 0 < N.getD j 0 ↔ M.getD i 0 < M.getD j 0)) : ∀ (l : List Nat) (st : Option (Nat × Nat)), (∀ a ∈ l, a < rz.length) → (∀ g b, st = some (g, b) → g < rz.length ∧ b < rz.length) →
    l.foldl (goStep rz N) st = l.foldl (goStep rz M) st ∧ ∀ g b, l.foldl (goStep rz M) st = some (g, b) → g < rz.length ∧ b < rz.length
  | [], st, _, h => ⟨rfl, h⟩
  | a :: l, st, hl, h => by
    have ha := hl a (List.mem_cons_self ..)
    rw [List.foldl_cons, List.foldl_cons, goStep_nat hNM ha h]
    exact goFold_nat hNM l _ (fun b hb => hl b (List.mem_cons_of_mem _ hb)) (goStep_room ha h)
end
theorem getD_num (f : Nat → Int) (rz : List (Bool × Nat)) {i : Nat} (hi : i < rz.length) : (rz.map fun q => f q.2).getD i 0 = f (rz[i]).2 := by
  rw [List.getD_eq_getElem?_getD, List.getElem?_map, List.getElem?_eq_getElem hi]; rfl
theorem changeZ_nat (f : Nat → Int) (rz : List (Bool × Nat)) (hf : ∀ p ∈ rz, ∀ q ∈ rz, (f p.2 < f q.2 ↔ p.2 < q.2)) : changeZ f rz = changeZ (fun j => (j : Int)) rz := by
  have hNM : ∀ i j, i < rz.length → j < rz.length → ((rz.map fun q => f q.2).getD i 0 < (rz.map fun q => f q.2).getD j 0 ↔ (rz.map fun q => ((q.2 : Nat) : Int)).getD i 0 < (rz.map fun q => ((q.2 : Nat) : Int)).getD j 0) := fun i j hi hj => by
    rw [getD_num f rz hi, getD_num f rz hj, getD_num (fun j => (j : Int)) rz hi, getD_num (fun j => (j : Int)) rz hj, hf _ (List.getElem_mem hi) _ (List.getElem_mem hj)]
    omega
  obtain ⟨h1, h2⟩ := goFold_nat hNM (List.range rz.length) none (fun a ha => List.mem_range.mp ha) (fun _ _ e => nomatch e)
  unfold changeZ
  rw [h1]
  cases e : (List.range rz.length).foldl (goStep rz (rz.map fun q => ((q.2 : Nat) : Int))) none with
  | none => rfl
  | some p =>
    obtain ⟨g, b⟩ := p
    obtain ⟨hg, hb⟩ := h2 g b e
    dsimp only
    congr 1
    apply List.map_congr_left
    intro q hq
    have hm : ∀ i, i < rz.length → rz.getD i (false, 0) ∈ rz := fun i hi => by
      rw [List.getD_eq_getElem?_getD, List.getElem?_eq_getElem hi]; exact List.getElem_mem hi
    have hq' : q ∈ rz := by
      rcases List.mem_or_eq_of_mem_set hq with hq | rfl
      · rcases List.mem_or_eq_of_mem_set hq with hq | rfl
        · exact hq
        · exact hm b hb
      · exact hm g hg
    rw [getD_num f rz hg, getD_num (fun j => (j : Int)) rz hg]
    have := hf _ (List.getElem_mem hg) q hq'
    have e2 : (f q.2 > f (rz[g]).2) = (((q.2 : Nat) : Int) > (((rz[g]).2 : Nat) : Int)) := by
      apply propext
      show f (rz[g]).2 < f q.2 ↔ _
      rw [this]; omega
    simp only [e2]
theorem rows_bells : ∀ (fs : List (Int × Int)) (r : List (Bool × Nat)) (k : Nat), (∀ q ∈ r, q.2 < k) → r.length + fs.length ≤ k → ∀ q ∈ fs.foldl rowStep r, q.2 < k
  | [], r, k, h, _ => h
  | f :: fs, r, k, h, hk => by
    rw [List.foldl_cons]
    rw [List.length_cons] at hk
    refine rows_bells fs _ k (fun q hq => ?_) (by rw [rowStep_length]; omega)
    have key : ∀ z (b : Bool), q ∈ insZ r z (b, r.length) → q.2 < k := fun z b hm => by
      unfold insZ at hm
      rcases List.mem_append.mp hm with hm | hm
      · exact h _ (List.mem_of_mem_take hm)
      · rcases List.mem_cons.mp hm with rfl | hm
        · show r.length < k; omega
        · exact h _ (List.mem_of_mem_drop hm)
    unfold rowStep at hq
    split at hq <;> exact key _ _ hq
theorem row_bells (h : Int) (n : Nat) : ∀ q ∈ rowZ h n, q.2 < n := rows_bells _ _ n (fun _ h => nomatch h) (by rw [figs_length]; simp)
theorem rowZ_length (h : Int) (n : Nat) : (rowZ h n).length = n := by unfold rowZ; rw [rows_length, figs_length]; simp
theorem change_law {f : Nat → Int} {n h : Nat} (h1 : 3 ≤ n) (h2 : n ≤ 5) (hh : h < fac n) (hf : ∀ i j, i < n → j < n → (f i < f j ↔ i < j)) :
    changeZ f (rowZ (h : Int) n) = (decide (h + 1 < fac n), rowZ ((min (h + 1) (fac n - 1) : Nat) : Int) n) := by
  rw [changeZ_nat f _ fun p hp q hq => hf _ _ (row_bells _ _ p hp) (row_bells _ _ q hq)]
  exact change_rank h1 h2 hh
end Mine
theorem Mine.top_off_L2 : True := by
  w_top off
  trivial
set_option maxRecDepth 100000
namespace Mine
section
variable {f : Int → Int} (hf : ∀ a b, f a < f b ↔ a < b)
include hf
theorem mono_inj {a b : Int} (h : f a = f b) : a = b := by
  have h1 := hf a b
  have h2 := hf b a
  omega
theorem mono_le (a b : Int) : f a ≤ f b ↔ a ≤ b := by
  have h2 := hf b a
  omega
theorem ins_map (a : Int) : ∀ l : List Int, ins (f a) (l.map f) = (ins a l).map f
  | [] => rfl
  | b :: r => by
    rw [List.map_cons]
    unfold ins
    by_cases h : a ≤ b
    · rw [if_pos h, if_pos ((mono_le hf a b).mpr h)]; rfl
    · rw [if_neg h, if_neg (fun q => h ((mono_le hf a b).mp q)), ins_map a r]; rfl
theorem isort_map : ∀ l : List Int, isort (l.map f) = (isort l).map f
  | [] => rfl
  | a :: r => by
    rw [List.map_cons]
    show ins (f a) (isort (r.map f)) = _
    rw [isort_map r, ins_map hf]
    rfl
theorem idx_map (n : Int) : ∀ l : List Int, (l.map f).idxOf (f n) = l.idxOf n
  | [] => rfl
  | a :: r => by
    rw [List.map_cons, List.idxOf_cons, List.idxOf_cons, idx_map n r]
    by_cases h : a = n
    · subst h; simp only [beq_self_eq_true, if_true, cond_true]
    · have h2 : f a ≠ f n := fun q => h (mono_inj hf q)
      rw [beq_false_of_ne h, beq_false_of_ne h2]
theorem hStep_map (l : List (Bool × Int)) (st : Int × Int) (n : Int) : hStep (l.map fun q => (q.1, f q.2)) st (f n) = hStep l st n := by
  have e : (l.map fun q => (q.1, f q.2)).map (·.2) = (l.map (·.2)).map f := by rw [List.map_map, List.map_map]; rfl
  unfold hStep
  simp only [e, idx_map hf]
  have e2 : ((((l.map (·.2)).map f).take ((l.map (·.2)).idxOf n)).filter fun o => decide (o < f n)).length = (((l.map (·.2)).take ((l.map (·.2)).idxOf n)).filter fun o => decide (o < n)).length := by
    rw [← List.map_take, List.filter_map, List.length_map]
    congr 1
    apply List.filter_congr
    intro o _
    simp only [Function.comp, hf]
  rw [e2]
  have e3 : ((l.map fun q => (q.1, f q.2))[(l.map (·.2)).idxOf n]?.getD (false, 0)).1 = (l[(l.map (·.2)).idxOf n]?.getD (false, 0)).1 := by
    rw [List.getElem?_map]
    cases l[(l.map (·.2)).idxOf n]? <;> rfl
  rw [e3]
theorem hourZ_map (l : List (Bool × Int)) : hourZ (l.map fun q => (q.1, f q.2)) = hourZ l := by
  unfold hourZ
  rw [show (l.map fun q => (q.1, f q.2)).map (·.2) = (l.map (·.2)).map f by rw [List.map_map, List.map_map]; rfl, isort_map hf, List.foldl_map]
  congr 1
  have : (fun st n => hStep (l.map fun q => (q.1, f q.2)) st (f n)) = hStep l := by
    funext st n
    exact hStep_map hf l st n
  rw [this]
end
theorem sub1_flat {α : Type} (c : Nat) (z : List Nat) (g : α → List Nat) (l : List α) : sub1 c z (l.flatMap g) = l.flatMap fun k => sub1 c z (g k) := by
  unfold sub1
  rw [List.flatMap_assoc]
theorem flatMap_eq {l : List Nat} {g k : Nat → List Nat} (h : ∀ x ∈ l, g x = k x) : l.flatMap g = l.flatMap k := by
  induction l with
  | nil => rfl
  | cons a r ih => rw [List.flatMap_cons, List.flatMap_cons, h a (List.mem_cons_self ..), ih fun x hx => h x (List.mem_cons_of_mem _ hx)]
theorem rep_list (c : Nat) (z x : Str) : (rep c z x).cps.toList = sub1 c z.cps.toList x.cps.toList := rfl
theorem self_flat (l : List Nat) : l = l.flatMap fun k => [k] := by simp
theorem one_ne (c k : Nat) (z : List Nat) (h : k ≠ c) : sub1 c z [k] = [k] := sub1_free c z [k] (fun q => h (List.mem_singleton.mp q).symm)
theorem esc_told {x : Str} (hq : ∀ k ∈ x.cps.toList, k ≠ 34 ∧ k ≠ 10 ∧ k ≠ 13) : (escC x).cps.toList = x.cps.toList.flatMap fun c => (tell false c).cps.toList := by
  unfold escC
  simp only [rep_list]
  conv => lhs; rw [self_flat x.cps.toList]
  simp only [sub1_flat]
  apply flatMap_eq
  intro k hk
  obtain ⟨h1, h2, h3⟩ := hq k hk
  show _ = (tellC k).cps.toList
  unfold tellC
  by_cases e1 : k = 38
  · subst e1; decide +kernel
  by_cases e2 : k = 60
  · subst e2; decide +kernel
  by_cases e3 : k = 9
  · subst e3; decide +kernel
  rw [if_neg e1, if_neg e2, if_neg e3, one_ne _ _ _ e1, one_ne _ _ _ e2, one_ne _ _ _ h1, one_ne _ _ _ e3, one_ne _ _ _ h2, one_ne _ _ _ h3]
theorem escW_told {x : Str} (hq : ∀ k ∈ x.cps.toList, k ≠ 34 ∧ k ≠ 10 ∧ k ≠ 13) : (escW x).cps.toList = x.cps.toList.flatMap fun c => (tell true c).cps.toList := by
  unfold escW
  simp only [rep_list]
  conv => lhs; rw [self_flat x.cps.toList]
  simp only [sub1_flat]
  apply flatMap_eq
  intro k hk
  obtain ⟨h1, h2, h3⟩ := hq k hk
  show _ = (tellW k).cps.toList
  unfold tellW
  by_cases e1 : k = 38
  · subst e1; decide +kernel
  by_cases e2 : k = 60
  · subst e2; decide +kernel
  by_cases e4 : k = 62
  · subst e4; decide +kernel
  by_cases e3 : k = 9
  · subst e3; decide +kernel
  rw [if_neg e1, if_neg e2, if_neg e4, if_neg e3, one_ne _ _ _ e1, one_ne _ _ _ e2, one_ne _ _ _ e4, one_ne _ _ _ h1, one_ne _ _ _ h3, one_ne _ _ _ h2, one_ne _ _ _ e3]
end Mine
theorem Mine.top_off_L3 : True := by
  w_top off
  trivial
set_option maxRecDepth 100000
namespace Mine
theorem op_signs : opTab.all (fun r => !(r.1.contains 32) && !((r.1.drop 1).contains 38)) = true := by decide +kernel
theorem isOp_mem {l : List Nat} (h : isOp l = true) : 32 ∉ l ∧ 38 ∉ l.drop 1 := by
  unfold isOp opN at h
  cases e : opTab.find? fun r => r.1 == l with
  | none => rw [e] at h; cases h
  | some r =>
    have h1 := List.all_eq_true.mp op_signs r (List.mem_of_find?_eq_some e)
    have h2 : r.1 = l := by
      have h5 := List.find?_some e
      exact eq_of_beq h5
    rw [h2, Bool.and_eq_true, Bool.not_eq_true', Bool.not_eq_true'] at h1
    obtain ⟨h3, h4⟩ := h1
    refine ⟨fun q => ?_, fun q => ?_⟩
    · rw [List.contains_iff_mem.mpr q] at h3; cases h3
    · rw [List.contains_iff_mem.mpr q] at h4; cases h4
theorem edge_op {x c : Nat} (hc : c = 32 ∨ c = 38) (a b : List Nat) : isOp (x :: (a ++ c :: b)) = false := by
  cases e : isOp (x :: (a ++ c :: b)) with
  | false => rfl
  | true =>
    obtain ⟨h1, h2⟩ := isOp_mem e
    rcases hc with rfl | rfl
    · exact absurd (by simp) h1
    · exact absurd (by simp) h2
noncomputable def Edge (b : List Nat) : Prop := ∀ c ∈ b.head?, c = 32 ∨ c = 38
theorem cut_app {b : List Nat} (hb : Edge b) : ∀ (n : Nat) (a : List Nat), a.length ≤ n → cut (a ++ b) = cut a ++ cut b := by
  cases b with
  | nil => intro n a _; rw [List.append_nil, cut_nil, List.append_nil]
  | cons c b =>
    have hc : c = 32 ∨ c = 38 := hb c rfl
    intro n
    induction n with
    | zero => intro a h; rw [List.length_eq_zero_iff.mp (Nat.le_zero.mp h), cut_nil]; rfl
    | succ n ih =>
      intro a h
      cases a with
      | nil => rw [cut_nil]; rfl
      | cons x r =>
        have key : ((x :: r) ++ c :: b).take (cutK ((x :: r) ++ c :: b)) = (x :: r).take (cutK (x :: r)) ∧ ((x :: r) ++ c :: b).drop (cutK ((x :: r) ++ c :: b)) = (x :: r).drop (cutK (x :: r)) ++ c :: b := by
          cases r with
          | nil =>
            have e1 : isOp (([x] ++ c :: b).take 3) = false := edge_op hc [] (b.take 1)
            have e2 : isOp (([x] ++ c :: b).take 2) = false := edge_op hc [] []
            have e3 : cutK ([x] ++ c :: b) = 1 := by unfold cutK; rw [e1, e2]; rfl
            have e4 := cutK_pos [x]
            rw [e3, List.take_of_length_le (i := cutK [x]) (by simpa using e4), List.drop_of_length_le (i := cutK [x]) (by simpa using e4)]
            exact ⟨rfl, rfl⟩
          | cons y r =>
            cases r with
            | nil =>
              have e1 : isOp (([x, y] ++ c :: b).take 3) = false := edge_op hc [y] []
              have e3 : cutK ([x, y] ++ c :: b) = if isOp [x, y] then 2 else 1 := by unfold cutK; rw [e1]; rfl
              have e4 : cutK [x, y] = if isOp [x, y] then 3 else 1 := by
                unfold cutK
                show (if isOp [x, y] = true then 3 else if isOp [x, y] = true then 2 else 1) = _
                cases isOp [x, y] <;> rfl
              rw [e3, e4]
              cases isOp [x, y] <;> exact ⟨rfl, rfl⟩
            | cons z r =>
              have e3 : cutK ((x :: y :: z :: r) ++ c :: b) = cutK (x :: y :: z :: r) := rfl
              have hle := cutK_le (x :: y :: z :: r)
              have h3 : cutK (x :: y :: z :: r) ≤ (x :: y :: z :: r).length := by simp only [List.length_cons]; omega
              rw [e3, List.take_append_of_le_length h3, List.drop_append_of_le_length h3]
              exact ⟨rfl, rfl⟩
        have hp := cutK_pos (x :: r)
        rw [cut_cons (l := (x :: r) ++ c :: b) (by simp), cut_cons (l := x :: r) (by simp), key.1, key.2, ih _ (by rw [List.length_drop, List.length_cons]; rw [List.length_cons] at h; omega)]
        rfl
theorem un_shift (T : List Nat) : ∀ (ws : List (List Nat)) (st : List Nat × Option (List Nat)), ws.foldl unStep (T ++ st.1, st.2) = (T ++ (ws.foldl unStep st).1, (ws.foldl unStep st).2)
  | [], _ => rfl
  | wd :: ws, st => by
    rw [List.foldl_cons, List.foldl_cons]
    have e : unStep (T ++ st.1, st.2) wd = (T ++ (unStep st wd).1, (unStep st wd).2) := by
      obtain ⟨a, b⟩ := st
      cases b with
      | none => unfold unStep; dsimp only; split <;> simp
      | some nm => unfold unStep; dsimp only; split <;> simp
    rw [e, un_shift T ws]
noncomputable def cutN : Nat → List Nat → List (List Nat)
  | 0, _ => []
  | _ + 1, [] => []
  | n + 1, a :: l => (a :: l).take (cutK (a :: l)) :: cutN n ((a :: l).drop (cutK (a :: l)))
theorem cutN_is : ∀ (n : Nat) (l : List Nat), l.length ≤ n → cutN n l = cut l
  | 0, l, h => by rw [List.length_eq_zero_iff.mp (Nat.le_zero.mp h), cut_nil]; rfl
  | _ + 1, [], _ => by rw [cut_nil]; rfl
  | n + 1, a :: l, h => by
    have hp := cutK_pos (a :: l)
    rw [cut_cons (by simp), cutN, cutN_is n _ (by rw [List.length_drop, List.length_cons]; rw [List.length_cons] at h; omega)]
noncomputable def lk (b : Bool) : Nat := if b then 9 else 32
noncomputable def piece (wide : Bool) (b : Bool) (nm : List Nat) : List Nat := (lk b :: nm).flatMap fun c => (tell wide c).cps.toList
noncomputable def pieceAt (j : Nat) : Bool := [false, true].all fun wide => [false, true].all fun b =>
  decide ((piece wide b (sg j)).length ≤ 60) && ((cutN 60 (piece wide b (sg j))).foldl unStep ([], none) == (lk b :: sg j, none))
theorem pieceOk_0 : (List.range' 0 8).all pieceAt = true := by decide +kernel
theorem pieceOk_1 : (List.range' 8 8).all pieceAt = true := by decide +kernel
theorem pieceOk_2 : (List.range' 16 8).all pieceAt = true := by decide +kernel
theorem pieceOk_3 : (List.range' 24 8).all pieceAt = true := by decide +kernel
theorem pieceOk_4 : (List.range' 32 8).all pieceAt = true := by decide +kernel
theorem pieceOk_5 : (List.range' 40 8).all pieceAt = true := by decide +kernel
theorem range_cut : List.range 48 = List.range' 0 8 ++ (List.range' 8 8 ++ (List.range' 16 8 ++ (List.range' 24 8 ++ (List.range' 32 8 ++ List.range' 40 8)))) := by decide +kernel
theorem pieceOk_is : (List.range 48).all pieceAt = true := by
  rw [range_cut, List.all_append, List.all_append, List.all_append, List.all_append, List.all_append, pieceOk_0, pieceOk_1, pieceOk_2, pieceOk_3, pieceOk_4, pieceOk_5]
  rfl
theorem bool_mem (b : Bool) : b ∈ [false, true] := by cases b <;> simp
theorem piece_un {j : Nat} (hj : j < 48) (wide b : Bool) : (cut (piece wide b (sg j))).foldl unStep ([], none) = (lk b :: sg j, none) := by
  have h := List.all_eq_true.mp (List.all_eq_true.mp (List.all_eq_true.mp pieceOk_is j (List.mem_range.mpr hj)) wide (bool_mem wide)) b (bool_mem b)
  rw [Bool.and_eq_true, decide_eq_true_eq] at h
  rw [← cutN_is 60 _ h.1]
  exact eq_of_beq h.2
theorem tell_edge (wide b : Bool) : ∃ c r, (tell wide (lk b)).cps.toList = c :: r ∧ (c = 32 ∨ c = 38) := by
  have h : ∀ wide ∈ [false, true], ∀ b ∈ [false, true], ((tell wide (lk b)).cps.toList.head? == some 32 || (tell wide (lk b)).cps.toList.head? == some 38) = true := by decide +kernel
  have h := h wide (bool_mem _) b (bool_mem _)
  cases e : (tell wide (lk b)).cps.toList with
  | nil => rw [e] at h; cases h
  | cons c r =>
    rw [e] at h
    refine ⟨c, r, rfl, ?_⟩
    simpa using h
theorem rows_edge (wide : Bool) (g : Bool × Nat → List Nat) (rz : List (Bool × Nat)) : Edge (rz.flatMap fun q => piece wide q.1 (g q)) := by
  cases rz with
  | nil => intro c hc; cases hc
  | cons q r =>
    obtain ⟨c, k, e, hc⟩ := tell_edge wide q.1
    intro d hd
    rw [List.flatMap_cons] at hd
    unfold piece at hd
    rw [List.flatMap_cons, e] at hd
    simp at hd
    rw [← hd]; exact hc
theorem un_rows (wide : Bool) (g : Bool × Nat → Nat) : ∀ (rz : List (Bool × Nat)), (∀ q ∈ rz, g q < 48) →
    (cut (rz.flatMap fun q => piece wide q.1 (sg (g q)))).foldl unStep ([], none) = (rz.flatMap fun q => lk q.1 :: sg (g q), none)
  | [], _ => by rw [List.flatMap_nil, cut_nil]; rfl
  | q :: r, h => by
    have ih := un_rows wide g r fun p hp => h p (List.mem_cons_of_mem _ hp)
    rw [List.flatMap_cons, cut_app (rows_edge wide (fun q => sg (g q)) r) _ _ (Nat.le_refl _), List.foldl_append, piece_un (h q (List.mem_cons_self ..)) wide q.1]
    have := un_shift (lk q.1 :: sg (g q)) (cut (r.flatMap fun q => piece wide q.1 (sg (g q)))) ([], none)
    rw [List.append_nil] at this
    rw [this, ih]
    rfl
theorem sg_free : (List.range 48).all (fun j => (sg j).all fun c => c != 32 && c != 9 && c != 34 && c != 10 && c != 13) = true := by decide +kernel
theorem sg_mem {j : Nat} (hj : j < 48) : 32 ∉ sg j ∧ 9 ∉ sg j ∧ 34 ∉ sg j ∧ 10 ∉ sg j ∧ 13 ∉ sg j := by
  have h := List.all_eq_true.mp (List.all_eq_true.mp sg_free j (List.mem_range.mpr hj))
  refine ⟨?_, ?_, ?_, ?_, ?_⟩ <;> intro q <;> exact absurd (h _ q) (by decide)
theorem sg_len : (List.range 48).all (fun j => decide ((sg j).length ≤ 3) && decide (1 ≤ (sg j).length)) = true := by decide +kernel
theorem sg_num {j : Nat} (hj : j < 48) : opN (sg j) = some (7 + j) := eq_of_beq (List.all_eq_true.mp sg_op j (List.mem_range.mpr hj))
theorem split_rows (g : Bool × Nat → List Nat) : ∀ (rz : List (Bool × Nat)) (p : List Nat), 32 ∉ p → (∀ q ∈ rz, 32 ∉ g q) → splitL 32 (p ++ rz.flatMap fun q => 32 :: g q) = p :: rz.map g
  | [], p, hp, _ => by rw [List.flatMap_nil, List.append_nil, splitL_free hp]; rfl
  | q :: r, p, hp, h => by
    rw [List.flatMap_cons, List.cons_append, splitL_cons _ hp, split_rows g r _ (h q (List.mem_cons_self ..)) fun p hp => h p (List.mem_cons_of_mem _ hp)]
    rfl
noncomputable def bellP (g : Bool × Nat → Nat) (q : Bool × Nat) : List Nat := if q.1 then 9 :: sg (g q) else sg (g q)
theorem bells_rows (wide : Bool) (g : Bool × Nat → Nat) (rz : List (Bool × Nat)) (h : ∀ q ∈ rz, g q < 48) : bellsOf (rz.flatMap fun q => piece wide q.1 (sg (g q))) = rz.map (bellP g) := by
  unfold bellsOf unText
  rw [un_rows wide g rz h]
  dsimp only
  rw [sub1_flat]
  have e : ∀ q ∈ rz, sub1 9 [32, 9] (lk q.1 :: sg (g q)) = 32 :: bellP g q := fun q hq => by
    have hf := sub1_free 9 [32, 9] (sg (g q)) (sg_mem (h q hq)).2.1
    rw [show lk q.1 :: sg (g q) = [lk q.1] ++ sg (g q) from rfl, sub1_append, hf]
    unfold lk bellP
    cases q.1 <;> rfl
  have e2 : (rz.flatMap fun k => sub1 9 [32, 9] (lk k.1 :: sg (g k))) = rz.flatMap fun q => 32 :: bellP g q := by
    clear h
    induction rz with
    | nil => rfl
    | cons a r ih => rw [List.flatMap_cons, List.flatMap_cons, e a (List.mem_cons_self ..), ih fun x hx => e x (List.mem_cons_of_mem _ hx)]
  rw [e2, ← List.nil_append (rz.flatMap fun q => 32 :: bellP g q), split_rows (bellP g) rz [] (by simp) (fun q hq => ?_)]
  · rfl
  · have := (sg_mem (h q hq)).1
    unfold bellP
    split
    · intro m
      rcases List.mem_cons.mp m with m | m
      · cases m
      · exact this m
    · exact this
theorem bell_row (g : Bool × Nat → Nat) (q : Bool × Nat) (h : g q < 48) : bellRow (bellP g q) = (q.1, ((7 + g q : Nat) : Int)) := by
  have hm := (sg_mem h).2.1
  have e1 : bellNo (bellP g q) = sg (g q) := by
    unfold bellNo bellP
    cases q.1
    · exact sub1_free 9 [] _ hm
    · show sub1 9 [] ([9] ++ sg (g q)) = _
      rw [sub1_append, sub1_free 9 [] _ hm]
      rfl
  have e2 : decide ((bellP g q).head? = some 9) = q.1 := by
    unfold bellP
    cases q.1
    · cases e : sg (g q) with
      | nil => rfl
      | cons c r =>
        rw [e] at hm
        have : c ≠ 9 := fun q => hm (q ▸ List.mem_cons_self ..)
        simpa using this
    · rfl
  unfold bellRow bellN
  rw [e1, e2, sg_num h]
  rfl
noncomputable def hourOk (n : Nat) : Bool := (List.range (match n with | 3 => 6 | 4 => 24 | _ => 120)).all fun h => hourZ ((rowZ (h : Int) n).map fun q => (q.1, ((q.2 : Nat) : Int))) == (h : Int)
theorem hourOk_3 : hourOk 3 = true := by decide +kernel
theorem hourOk_4 : hourOk 4 = true := by decide +kernel
theorem hourOk_5 : hourOk 5 = true := by decide +kernel
end Mine
theorem Mine.top_off_L4 : True := by
  w_top off
  trivial
set_option maxRecDepth 100000
namespace Mine
noncomputable def numX (idx : List Nat) (z : Int) : Int := if z < 0 then z else if z < (idx.length : Int) then ((7 + idx.getD z.toNat 0 : Nat) : Int) else z + 100
theorem idx_lt {idx : List Nat} (hp : idx.Pairwise (· < ·)) {i j : Nat} (hij : i < j) (hj : j < idx.length) : idx.getD i 0 < idx.getD j 0 := by
  have hi : i < idx.length := Nat.lt_trans hij hj
  rw [List.getD_eq_getElem?_getD, List.getD_eq_getElem?_getD, List.getElem?_eq_getElem hi, List.getElem?_eq_getElem hj]
  exact List.pairwise_iff_getElem.mp hp i j hi hj hij
theorem idx_48 {idx : List Nat} (hb : ∀ j ∈ idx, j < 48) {i : Nat} (hi : i < idx.length) : idx.getD i 0 < 48 := by
  rw [List.getD_eq_getElem?_getD, List.getElem?_eq_getElem hi]
  exact hb _ (List.getElem_mem hi)
theorem numX_lt {idx : List Nat} (hp : idx.Pairwise (· < ·)) (hb : ∀ j ∈ idx, j < 48) {a b : Int} (h : a < b) : numX idx a < numX idx b := by
  unfold numX
  by_cases ha : a < 0
  · rw [if_pos ha]
    split
    · exact h
    · split <;> omega
  · rw [if_neg ha, if_neg (show ¬ b < 0 by omega)]
    by_cases ha2 : a < (idx.length : Int)
    · rw [if_pos ha2]
      have h1 := idx_48 hb (i := a.toNat) (by omega)
      by_cases hb2 : b < (idx.length : Int)
      · rw [if_pos hb2]
        have := idx_lt hp (i := a.toNat) (j := b.toNat) (by omega) (by omega)
        omega
      · rw [if_neg hb2]; omega
    · rw [if_neg ha2, if_neg (show ¬ b < (idx.length : Int) by omega)]; omega
theorem numX_mono {idx : List Nat} (hp : idx.Pairwise (· < ·)) (hb : ∀ j ∈ idx, j < 48) (a b : Int) : numX idx a < numX idx b ↔ a < b := by
  refine ⟨fun h => ?_, numX_lt hp hb⟩
  by_cases e : a < b
  · exact e
  · by_cases e2 : b < a
    · have := numX_lt hp hb e2; omega
    · have : a = b := by omega
      subst this; omega
theorem fac3 : fac 3 = 6 := rfl
theorem fac4 : fac 4 = 24 := rfl
theorem fac5 : fac 5 = 120 := rfl
theorem hour_rank {n h : Nat} (h1 : 3 ≤ n) (h2 : n ≤ 5) (hh : h < fac n) : hourZ ((rowZ (h : Int) n).map fun q => (q.1, ((q.2 : Nat) : Int))) = (h : Int) := by
  rcases rows_small n h1 h2 with rfl | rfl | rfl
  · exact eq_of_beq (List.all_eq_true.mp hourOk_3 h (List.mem_range.mpr hh))
  · exact eq_of_beq (List.all_eq_true.mp hourOk_4 h (List.mem_range.mpr hh))
  · exact eq_of_beq (List.all_eq_true.mp hourOk_5 h (List.mem_range.mpr hh))
theorem sg_getD (idx : List Nat) {i : Nat} (hi : i < idx.length) : (idx.map sg).getD i [] = sg (idx.getD i 0) := by
  rw [List.getD_eq_getElem?_getD, List.getD_eq_getElem?_getD, List.getElem?_map, List.getElem?_eq_getElem hi]; rfl
noncomputable def pageL (wide : Bool) (idx : List Nat) (rz : List (Bool × Nat)) : List Nat := (rowText (idx.map sg) rz).flatMap fun c => (tell wide c).cps.toList
theorem page_pieces (wide : Bool) (idx : List Nat) : ∀ rz : List (Bool × Nat), (∀ q ∈ rz, q.2 < idx.length) → pageL wide idx rz = rz.flatMap fun q => piece wide q.1 (sg (idx.getD q.2 0))
  | [], _ => rfl
  | q :: r, h => by
    have ih := page_pieces wide idx r fun p hp => h p (List.mem_cons_of_mem _ hp)
    unfold pageL rowText at ih ⊢
    rw [List.flatMap_cons, List.flatMap_cons, List.flatMap_append, ih, sg_getD idx (h q (List.mem_cons_self ..))]
    rfl
theorem hour_law {wide : Bool} {idx : List Nat} {h : Nat} (h1 : 3 ≤ idx.length) (h2 : idx.length ≤ 5) (hh : h < fac idx.length) (hp : idx.Pairwise (· < ·)) (hb : ∀ j ∈ idx, j < 48) :
    pageHour (pageL wide idx (rowZ (h : Int) idx.length)) = (h : Int) ∧ (bellsOf (pageL wide idx (rowZ (h : Int) idx.length))).length ≤ 5 := by
  have hr := row_bells (h : Int) idx.length
  have h48 : ∀ q ∈ rowZ (h : Int) idx.length, idx.getD q.2 0 < 48 := fun q hq => idx_48 hb (hr q hq)
  rw [page_pieces wide idx _ hr]
  have e := bells_rows wide (fun q => idx.getD q.2 0) _ h48
  unfold pageHour
  rw [e, List.length_map, rowZ_length]
  refine ⟨?_, h2⟩
  rw [List.map_map]
  have e2 : (rowZ (h : Int) idx.length).map (bellRow ∘ bellP fun q => idx.getD q.2 0) = ((rowZ (h : Int) idx.length).map fun q => (q.1, ((q.2 : Nat) : Int))).map fun q => (q.1, numX idx q.2) := by
    rw [List.map_map]
    apply List.map_congr_left
    intro q hq
    have hl := hr q hq
    show bellRow (bellP _ q) = (q.1, numX idx (q.2 : Int))
    rw [bell_row _ q (h48 q hq)]
    unfold numX
    rw [if_neg (by omega), if_pos (by omega)]
    rfl
  rw [e2, hourZ_map (numX_mono hp hb)]
  exact hour_rank h1 h2 hh
theorem rowText_mem {idx : List Nat} (hb : ∀ j ∈ idx, j < 48) {rz : List (Bool × Nat)} {k : Nat} (hk : k ∈ rowText (idx.map sg) rz) : k ≠ 34 ∧ k ≠ 10 ∧ k ≠ 13 := by
  unfold rowText at hk
  obtain ⟨q, _, hq⟩ := List.mem_flatMap.mp hk
  rcases List.mem_cons.mp hq with e | hm
  · split at e <;> (subst e; decide)
  · by_cases hl : q.2 < idx.length
    · rw [sg_getD idx hl] at hm
      obtain ⟨_, _, a, b, c⟩ := sg_mem (idx_48 hb hl)
      exact ⟨fun e => a (e ▸ hm), fun e => b (e ▸ hm), fun e => c (e ▸ hm)⟩
    · rw [List.getD_eq_getElem?_getD, List.getElem?_eq_none (by rw [List.length_map]; omega)] at hm
      exact absurd hm (List.not_mem_nil)
theorem change_op {idx : List Nat} {h : Nat} (h1 : 3 ≤ idx.length) (h2 : idx.length ≤ 5) (hh : h < fac idx.length) (hp : idx.Pairwise (· < ·)) (hb : ∀ j ∈ idx, j < 48) {f : Nat → Int} (hf : ∀ i, i < idx.length → f i = ((7 + idx.getD i 0 : Nat) : Int)) :
    changeZ f (rowZ (h : Int) idx.length) = (decide (h + 1 < fac idx.length), rowZ ((min (h + 1) (fac idx.length - 1) : Nat) : Int) idx.length) := by
  refine change_law h1 h2 hh fun i j hi hj => ?_
  rw [hf i hi, hf j hj]
  by_cases e : i < j
  · have := idx_lt hp e hj
    omega
  · by_cases e2 : j < i
    · have := idx_lt hp e2 hi
      omega
    · have : i = j := by omega
      subst this; omega
end Mine
theorem Mine.top_off_S1 : True := by
  w_top off
  trivial
section
set_option maxRecDepth 100000
set_option maxHeartbeats 4000000
open Builtin
namespace Mine
noncomputable def SeqAt (h : Heap) (l : Addr) (items : Array Value) : Prop := ∃ o n, h.get? l = some o ∧ o.data = .seq items n
theorem SeqAt.at {h h' : Heap} {l : Addr} {items : Array Value} (x : SeqAt h l items) (k : ∀ o, h.get? l = some o → h'.get? l = some o) : SeqAt h' l items :=
  let ⟨o, n, e, r⟩ := x; ⟨o, n, k _ e, r⟩
section
variable {prog : Program} {w : World} {A : Around} {E : Value → Shared → Prop} {s : Shared}
theorem next_S {it l : Addr} {i : Nat} {items : Array Value} {x : Value} {Q : Option Value → Shared → Prop} (hit : s.heap.IsListIter it l i) (hl : SeqAt s.heap l items) (hx : items[i]? = some x)
    (hQ : ∀ h', h'.IsListIter it l (i + 1) → Heap.SameBut it s.heap h' → Q (some x) { s with heap := h' }) : wpAny (model prog w) A (pyNext (.ref it)) Q E s := by
  obtain ⟨o, ho, hc, hd⟩ := id hit
  obtain ⟨ol, nl, hol, hdl⟩ := hl
  have key : ∀ {Q' : Fin → Shared → Prop}, (∀ h', h'.IsListIter it l (i + 1) → Heap.SameBut it s.heap h' → Q' (.done (.ret x)) { s with heap := h' }) → wpAny (model prog w) A.in1 (Builtin.«list_iterator.__next__» ⟨[.ref it], []⟩) Q' (fun _ _ => False) s := fun hq => by
    show wpAny _ _ (field (.ref it) 0 >>= _) _ _ s
    refine wpAny_bind (wpAny_field ho hd (x := .ref l) rfl ?_)
    show wpAny _ _ (if (Value.ref l == Value.none) = true then _ else _) _ _ s
    rw [if_neg (show ¬ ((Value.ref l == Value.none) = true) from Bool.false_ne_true)]
    show wpAny _ _ (field (.ref it) 1 >>= _) _ _ s
    refine wpAny_bind (wpAny_field ho hd (x := .int i 0) rfl ?_)
    show wpAny _ _ (seqItems? (.ref l) >>= _) _ _ s
    refine wpAny_bind (wpAny_seqItems hol hdl ?_)
    simp only [Int.toNat_natCast, hx]
    refine wpAny_bind (wpAny_setField ho hd (by simp) (wpAny_pure (hq _ ?_ (Heap.SameBut.update ..))))
    exact ⟨_, Heap.get?_update_self _ ho (Obj.isFreed_of_fields (Obj.data_mapFields hd _)), (Obj.cls_mapFields ..).trans hc, by
      rw [Obj.data_mapFields hd]; simp [rawInt]⟩
  unfold pyNext
  refine wpAny_bind (wpAny_attempt (wpAny_callSpecial?_slot (name := Str.ofString "__next__") hit.typeIs slot_listiter_next
    (wpAny_call_entry slot_listiter_next hit.typeIs entry_listiter_next ?_ (args_listiter_next _))))
  refine wpAny_mono (key (Q' := fun f s' => f = .done (.ret x) ∧ ∃ h', s' = { s with heap := h' } ∧ h'.IsListIter it l (i + 1) ∧ Heap.SameBut it s.heap h') fun h' h1 h2 => ⟨rfl, h', rfl, h1, h2⟩) (fun f s' hf => ?_) fun _ _ z => z.elim
  obtain ⟨rfl, h', rfl, h1, h2⟩ := hf
  exact ⟨x, rfl, wpAny_pure (hQ _ h1 h2)⟩
theorem end_S {it l : Addr} {i : Nat} {items : Array Value} {Q : Option Value → Shared → Prop} (hh : A.handled = none) (hit : s.heap.IsListIter it l i) (hl : SeqAt s.heap l items) (hx : items[i]? = none)
    (hQ : ∀ h', Heap.ExtBut it s.heap h' → Q none { s with heap := h' }) : wpAny (model prog w) A (pyNext (.ref it)) Q E s := by
  obtain ⟨o, ho, hc, hd⟩ := id hit
  obtain ⟨ol, nl, hol, hdl⟩ := hl
  unfold pyNext
  refine wpAny_bind (wpAny_attempt (wpAny_callSpecial?_slot (name := Str.ofString "__next__") hit.typeIs slot_listiter_next
    (wpAny_call_entry slot_listiter_next hit.typeIs entry_listiter_next ?_ (args_listiter_next _))))
  show wpAny _ _ (field (.ref it) 0 >>= _) _ _ s
  refine wpAny_bind (wpAny_field ho hd (x := .ref l) rfl ?_)
  show wpAny _ _ (if (Value.ref l == Value.none) = true then _ else _) _ _ s
  rw [if_neg (show ¬ ((Value.ref l == Value.none) = true) from Bool.false_ne_true)]
  show wpAny _ _ (field (.ref it) 1 >>= _) _ _ s
  refine wpAny_bind (wpAny_field ho hd (x := .int i 0) rfl ?_)
  show wpAny _ _ (seqItems? (.ref l) >>= _) _ _ s
  refine wpAny_bind (wpAny_seqItems hol hdl ?_)
  simp only [Int.toNat_natCast, hx]
  refine wpAny_bind (wpAny_rule (wpAny_bind (wpAny_setField ho hd (by simp) ?_)))
  show wpAny _ _ (newExc (.type "StopIteration") [] >>= _) _ _ _
  refine wpAny_bind ?_
  simp only [newExc, newTuple]
  refine wpAny_bind (wpAny_newObj_type ?_ (by size_fits))
  refine wpAny_bind (m := firstArgMember _ _) (wpAny_of_eq (a := Value.none) (by first | rfl | (simp only [firstArgMember]; rfl)) ?_)
  refine wpAny_newObj_type ?_ (by size_fits)
  simp only [raiseNew]
  refine wpAny_bind (wpAny_handled ?_)
  rw [show A.in1.handled = none from hh]
  refine wpAny_bind (wpAny_pure (wpAny_throw ?_))
  refine wpAny_bind (wpAny_isInstance (T := "StopIteration") (b := true) ⟨_, Heap.get?_push_size _ rfl, rfl⟩ isSubtype_stop ?_)
  exact wpAny_pure (hQ _ (((Heap.SameBut.update ..).extBut.push _).push _))
end
theorem walks_S {prog : Program} {w : World} {A : Around} (hh : A.handled = none) (I ax : Addr) (hne : ax ≠ I) (items : Array Value) (Ts : Nat → Addr) (vals : Nat → Array Value)
    (hit : ∀ j, j < items.size → items[j]? = some (.ref (Ts j))) (hTI : ∀ j, j < items.size → Ts j ≠ I) :
    WalksU prog w A I (I :: ax :: (List.range items.size).map Ts) [I] items.size (fun j v => j < items.size ∧ v = vals j)
      (fun j h => h.IsListIter I ax j ∧ SeqAt h ax items ∧ ∀ k, k < items.size → h.IsTuple (Ts k) (vals k))
      (fun j T h => (j < items.size ∧ T = Ts j) ∧ h.IsListIter I ax (j + 1) ∧ SeqAt h ax items ∧ ∀ k, k < items.size → h.IsTuple (Ts k) (vals k)) where
  sub := fun b hb => by simp at hb; simp [hb]
  frame := fun _ _ _ st hk => ⟨st.1.at fun o e => hk I (by simp) o e, st.2.1.at fun o e => hk ax (by simp) o e,
    fun k hk' => (st.2.2 k hk').at fun o e => hk (Ts k) (List.mem_cons_of_mem _ (List.mem_cons_of_mem _ (List.mem_map.mpr ⟨k, List.mem_range.mpr hk', rfl⟩))) o e⟩
  item := fun i s Q E hi st hQ => by
    refine next_S st.1 st.2.1 (x := .ref (Ts i)) (hit i hi) fun h' hit' hs' => ?_
    have tup : ∀ k, k < items.size → h'.IsTuple (Ts k) (vals k) := fun k hk' => (st.2.2 k hk').extBut hs'.extBut (hTI k hk')
    exact hQ (Ts i) (vals i) h' s.toks ⟨hi, rfl⟩ (tup i hi) ⟨⟨hi, rfl⟩, hit', st.2.1.at fun o e => hs'.extBut _ o hne e, tup⟩ fun b o hb e => hs'.extBut b o (fun h => hb (by simp [h])) e
  go := fun _ _ _ _ _ s Q _ hm hQ => wpAny_letOwnedTupleGo_listiter hm.2.1 (hQ s.heap hm.2 fun _ _ _ e => e)
  apart := fun j T _ hm hmem => by
    rcases List.mem_cons.mp hmem with e | e
    · exact hTI j hm.1.1 (hm.1.2 ▸ e)
    · cases e
  done := fun s Q E st hQ => end_S hh st.1 st.2.1 (by simp) fun h' he' => hQ h' s.toks fun b o hb e => he' b o (fun h => hb (by simp [h])) e
  self := fun _ _ _ _ st hQ => wpAny_pyIter_listiter st.1 hQ
section
variable {prog : Program} {w : World} {A : Around} {E : Value → Shared → Prop} {K : Frag} {C x : Addr} {h : Heap} {g : Array GenState} {d : Drawn} {t : Nat} {os : OsState} {dx : Addr} {its : Array Value} {n : Nat}
theorem it_kind : builtinKind "list.__iter__" = some .slot := by decide +kernel
theorem it_split : splitId "list.__iter__" = some ("list", "__iter__") := by decide +kernel
theorem iter_L {Q : Value → Shared → Prop} (X : K.In h) (hx : h.get? x = some (instL C dx its n)) (hi : mroIn K C (.type "list") = some true) (hg : findIn K (.ref C) "__iter__" = some (some (.builtin "list.__iter__")))
    (hq : Q (.ref h.objs.size) ⟨h.push { cls := .type "list_iterator", data := .fields #[.ref x, .int 0 0] }, g, d, t, os⟩) :
    wpAny (model prog w) A (pyIter (.ref x)) Q E ⟨h, g, d, t, os⟩ := by
  have t1 : Looks (model prog w) h (typeOf (.ref x)) (.ref C) := (Looks.ld hx).andThen .now
  have l1 := looks_findIn (M := model prog w) X hg
  have i1 := looks_mroIn (M := model prog w) X hi
  have b1 := slot_list_iter.bind (.ref x)
  unfold pyIter specialOf
  refine wpAny_bind (wpAny_bind (t1.here (l1.here ?_)))
  show wpAny _ A (callSpecialIfBoundUnlessNone? (.ref x) "__iter__" _ >>= _) Q E _
  simp only [callSpecialIfBoundUnlessNone?, bindSpecialIfBound?, specialOf]
  refine wpAny_bind (wpAny_holding (wpAny_bind (wpAny_bind (wpAny_bind (t1.here (l1.here ?_))))))
  simp only [b1]
  have fin : ∀ {Q' : Option Value → Shared → Prop} {E' : Value → Shared → Prop}, Q' (some (.ref h.objs.size)) ⟨h.push { cls := .type "list_iterator", data := .fields #[.ref x, .int 0 0] }, g, d, t, os⟩ →
      ∀ refuse : Sem Value, wpAny (model prog w) A (if (Value.builtin "list.__iter__" == Value.none) = true then (refuse >>= fun v => pure (some v)) else (call (.builtin "list.__iter__") [.ref x] >>= fun v => pure (some v))) Q' E' ⟨h, g, d, t, os⟩ := fun hq' refuse => by
    simp only [builtin_beq_none, Bool.false_eq_true, if_false]
    refine wpAny_bind (wpAny_call (codeAny_call_builtin_code (Code.quiet_builtin _ (by decide +kernel)) ?_))
    simp only [checkBuiltinCall, it_kind, it_split]
    unfold isInstance
    repeat lk
    refine codeAny_builtin entry_list_iter ?_
    show wpAny _ _ (do ret (← newFields "list_iterator" [.ref x, rawInt 0])) _ _ _
    exact wpAny_bind (wpAny_newObj_type (wpAny_pure (wpAny_pure hq')))
  have hT' : (⟨h.push { cls := .type "list_iterator", data := .fields #[.ref x, .int 0 0] }, g, d, t, os⟩ : Shared).TypeIs (.ref h.objs.size) "list_iterator" := ⟨_, Heap.get?_push_size _ rfl, rfl⟩
  refine wpAny_bind (wpAny_askSetting (wpAny_ite ?_))
  split
  · refine wpAny_bind (wpAny_pure (wpAny_pure (fin ?_ _)))
    dsimp only
    exact wpAny_bind (wpAny_bind (wpAny_typeOf hT' (wpAny_of_eq slot_listiter_next.lookup (wpAny_pure hq))))
  · refine wpAny_tryCatch (wpAny_bind (wpAny_pure (wpAny_pure (fin ?_ _))))
    dsimp only
    exact wpAny_bind (wpAny_bind (wpAny_typeOf hT' (wpAny_of_eq slot_listiter_next.lookup (wpAny_pure hq))))
end
theorem pile_iter (P : Params) : findIn (hdK.heap_1 P) (.ref 122) "__iter__" = some (some (.builtin "list.__iter__")) := by kernel_rfl
end Mine
end
theorem Mine.top_off_S2 : True := by
  w_top off
  trivial
set_option maxRecDepth 100000
namespace Mine
noncomputable def TabOk (pos : Pos) (ps : Array Value) : Prop := TriplesOk ps.toList ∧ (ps = #[] ∨ ∃ c', codeAmong pos ps.toList = some c')
theorem gen_code {M : Model} {A : Around} {E : Value → Shared → Prop} {s : Shared} {env : Env} {pos : Pos} {qual : Str} {scope : Scope} {c P : Addr} {ps : Array Value} {Q : Value → Shared → Prop} (hc : env.code = .ref c) (C : CodeHd s.heap c P) (hP : s.heap.get? P = some (tabObj ps)) (ht : TabOk pos ps)
    (h : ∀ code h' tk ps', Heap.ExtBut P s.heap h' → s.heap.objs.size ≤ h'.objs.size → h'.get? P = some (tabObj ps') → TabOk pos ps' → Q code { s with heap := h', toks := tk }) :
    wpAny M A (genexprCode env pos qual scope) Q E s := by
  obtain ⟨h1, h2⟩ := ht
  rcases h2 with rfl | ⟨c', h2⟩
  · refine wpAny_genexprCodeX hc (C.code hP h1) (C.tab hP) rfl fun c' h' tk hx hge hlt hcode _ htab _ => h _ h' tk _ hx (Nat.le_trans hge (Nat.le_of_lt hlt)) htab.2 ⟨trivial, .inr ⟨.ref c', ?_⟩⟩
    exact codeAmong_snoc [] trivial rfl
  · exact wpAny_genexprCode_hit hc (C.code hP h1) h2 (h _ s.heap s.toks ps (fun _ _ _ e => e) (Nat.le_refl _) hP ⟨h1, .inr ⟨_, h2⟩⟩)
noncomputable def SpecG (w : World) (A : Around) (f : Addr) (vs : List Value) (hid : List (Addr × Obj)) (s : Shared) (Post : Value → List (Addr × Obj) → Prop) : Prop :=
  ∀ (p : Program) (loose : List Str) (mean : ExcName → Option Value) (mg mb : Str → Option Value) (env : Env) (outer : List Env) (A₀ : Around) (base h₀ : Heap) (L : Addr) (m : Str → Option Value) (Q E : Value → Shared → Prop),
    Below A₀ base outer h₀ → Fr h₀ L s.heap m → (hdK.heap_1 w.params).In h₀ → News h₀ L s.heap hid → Top p loose mean mg mb h₀ → A.frames = some (env :: outer) → env.frame = some L → env.scope.kind = .function →
    (∀ v nl h' tk' gs, (AllBare s.gens → AllBare gs) → Fr h₀ L h' m → KeepOff (hid.map (·.1)) s.heap h' → (∀ q ∈ nl, h'.get? q.1 = some q.2 ∧ (q.1 ∈ hid.map (·.1) ∨ s.heap.get? q.1 = none)) → Post v nl → Q v { s with heap := h', toks := tk', gens := gs }) →
    wpAny (model PySem.Challenge.rw_xo0027_01.row.prog w) A (call (.ref f) vs) Q E s
section
variable {prog : Program} {w : World} {A A₀ : Around} {E : Value → Shared → Prop} {s : Shared} {K : Frag} {L : Addr} {h₀ base : Heap} {m mg mb : Str → Option Value} {p : Program} {loose : List Str} {mean : ExcName → Option Value} {Q : Value → Shared → Prop}
theorem fn_enterG {env : Env} {outer : List Env} {name qual : Str} {params : Arguments} {body : List Stmt} {scope : Scope} {dV kV doc pm cdv ct oc : Value} {an od : Option Addr} {osl : Array (Option Value)} {f : Addr} {args : List Value} {binds : List (Str × Value)}
    (hid : List (Addr × Obj)) (Post : Value → List (Addr × Obj) → Prop)
    (B : Below A₀ base outer h₀) (F : Fr h₀ L s.heap m) (X₀ : K.In h₀) (N : News h₀ L s.heap hid) (T : Top p loose mean mg mb h₀) (hA : A.frames = some (env :: outer)) (hf : env.frame = some L) (hke : env.scope.kind = .function)
    (hret : ∀ v nl h' tk' gs, (AllBare s.gens → AllBare gs) → Fr h₀ L h' m → KeepOff (hid.map (·.1)) s.heap h' → (∀ q ∈ nl, h'.get? q.1 = some q.2 ∧ (q.1 ∈ hid.map (·.1) ∨ s.heap.get? q.1 = none)) → Post v nl → Q v { s with heap := h', toks := tk', gens := gs })
    (ho : K.lookup f = some ⟨oc, od, .func (fnOf name qual params body scope dV kV doc pm an cdv ct), osl⟩) (hcd : codeIn K cdv qual = true) (hroom : A.depth < recursionLimit)
    (hbind : BindsTo s (fnOf name qual params body scope dV kV doc pm an cdv ct) ⟨args, []⟩ binds) (hloc : ∀ y ∈ binds, scope.names.lookup y.1 = some .local)
    (h : ∀ g L' h₁, (∀ b o, b ∉ hid.map (·.1) → s.heap.get? b = some o → g.get? b = some o) → Fr g L' h₁ (fun y => binds.reverse.lookup y) → News g L' h₁ hid → Below A base (env :: outer) g → K.In g → Top p loose mean mg mb g → (∀ q ∈ hid, q.1 < L') →
      wpAny (model prog w) (A.deeper (envOf qual scope L' f cdv)) (execs body (envOf qual scope L' f cdv))
        (fun fl s' => Leave g L' (fun v nl s'' => Post v nl ∧ ∃ h' tk' gs, (AllBare s.gens → AllBare gs) ∧ s'' = { s with heap := h', toks := tk', gens := gs }) (match fl with | .ret v => v | _ => .none) s')
        (fun _ _ => False)
        { s with heap := h₁, toks := s.toks + binds.length })
    (hco : scope.isCoroutine = false) (hgen : scope.isGenerator = false) (hk : scope.kind = .function)
    (hcell : ∀ x ∈ scope.names, x.2 ≠ .cell) : wpAny (model prog w) A (call (.ref f) args) Q E s := by
  refine wpAny_call ?_
  obtain ⟨FG, BG, st, lv⟩ := groundX (R := fun r s' => match r with | .ok (.ret v) => Q v s' | .ok _ => False | .error e => E e s') B F N hA hf hke
  refine codeAny_call_def (fd := fnX name qual params body scope [] dV kV doc pm an cdv ct) (body := body) (binds := binds) hroom ((X₀.keeps F.keep) _ _ ho) rfl (T.nolimit.keeps F.keep) (codeRec_of (X₀.keeps F.keep) hcd) rfl hbind hcell hloc (fun h₁ hns hk₁ => ?_) hco hgen hk
  have hg : ∀ b o, b ∉ hid.map (·.1) → s.heap.get? b = some o → (hideAll s.heap (hid.map (·.1))).get? b = some o := fun b o hb e => hideAll_get _ e hb
  refine wpAny_mono (h _ s.heap.objs.size h₁ hg ⟨hns, fun b o e => hk₁ b o (of_hideAll _ e), Nat.le_of_eq (hideAll_size _ _)⟩
    (fun p hp => ⟨hk₁ _ _ (N p hp).1, Nat.ne_of_lt (Heap.lt_size (N p hp).1), hideAll_none _ (List.mem_map_of_mem hp)⟩) BG (X₀.keeps st) (T.keeps st) (fun p hp => Heap.lt_size (N p hp).1)) (fun fl s' hl => ?_) fun _ _ y => y.elim
  obtain ⟨m', news', F', N', hp, h', tk', gs, hgb, rfl⟩ := hl
  refine lv _ _ ⟨_, m', news', F', N', fun kF kN => ?_⟩
  refine hret _ news' h' tk' gs hgb kF (fun b o hb e => F'.keep b o (hg b o hb e)) (fun q hq => ⟨(N' q hq).1, ?_⟩) hp
  by_cases hb : q.1 ∈ hid.map (·.1)
  · exact .inl hb
  · right
    cases e : s.heap.get? q.1 with
    | none => rfl
    | some o =>
      have h2 := hg _ _ hb e
      rw [(N' q hq).2.2] at h2
      cases h2
end
end Mine
theorem Mine.top_off_S3 : True := by
  w_top off
  trivial
set_option maxRecDepth 100000
namespace Mine
theorem pile_str (P : Params) : findIn (hdK.heap_1 P) (.ref 122) "__str__" = some (some (.ref 96)) := by kernel_rfl
theorem str_head (P : Params) : codeHdIn (hdK.heap_1 P) 95 91 = true := by kernel_rfl
theorem join_two (a b : Str) : Txt.join (Str.ofString "") [a, b] = a ++ b := by
  apply Str.ext'
  apply Array.ext'
  rw [show Str.ofString "" = ⟨#[]⟩ by decide +kernel, join_empty]
  simp [Str.cps_append]
theorem rows_text (nms : List (Str × Tok)) (rz : List (Bool × Nat)) : (List.range rz.length).flatMap (fun i => (rowZs nms rz i).cps.toList) = rowText (nms.map (·.1.cps.toList)) rz := by
  have h := congrArg (fun l : List Str => l.flatMap (·.cps.toList)) (rows_flat nms (fun c => ⟨#[c]⟩) rz)
  simpa [List.flatMap_assoc, List.flatMap_map] using h
theorem sum_100 (f : Nat → Str) (hf : ∀ i, (f i).length ≤ 100) : ∀ l : List Nat, ((l.map f).map (·.length)).sum ≤ 100 * l.length
  | [] => by simp
  | a :: r => by
    have h1 := sum_100 f hf r
    have h2 := hf a
    simp only [List.map_cons, List.sum_cons, List.length_cons]
    omega
theorem two_fun {tl : List (Addr × PySem.Obj)} {nms : List (Str × Tok)} {rv : List Value} {rz : List (Bool × Nat)} (hrw : TwoAll tl (rowF nms) rv rz) : ∃ (Ts : Nat → Addr) (xs zs : Nat → Value), ∀ j, j < rv.length → rv[j]? = some (.ref (Ts j)) ∧ (Ts j, tupO (xs j) (zs j)) ∈ tl ∧
    ∃ q nm t1 t2 t3, rz[j]? = some q ∧ xs j = .str (look q.1) t1 ∧ zs j = .str nm t2 ∧ nms[q.2]? = some (nm, t3) := by
  have key : ∀ j, ∃ p : Addr × Value × Value, j < rv.length → rv[j]? = some (.ref p.1) ∧ (p.1, tupO p.2.1 p.2.2) ∈ tl ∧ ∃ q nm t1 t2 t3, rz[j]? = some q ∧ p.2.1 = .str (look q.1) t1 ∧ p.2.2 = .str nm t2 ∧ nms[q.2]? = some (nm, t3) := fun j => by
    by_cases hj : j < rv.length
    · obtain ⟨v, hv⟩ : ∃ v, rv[j]? = some v := ⟨_, List.getElem?_eq_getElem hj⟩
      obtain ⟨q, T, xx, z, hq, rfl, hm, ⟨ta, rfl⟩, nm, tb, tc, hnm, rfl⟩ := hrw.get hv
      exact ⟨(T, _, _), fun _ => ⟨hv, hm, q, nm, ta, tb, tc, hq, rfl, rfl, hnm⟩⟩
    · exact ⟨(0, .none, .none), fun h => absurd h hj⟩
  exact ⟨fun j => (key j).choose.1, fun j => (key j).choose.2.1, fun j => (key j).choose.2.2, fun j hj => (key j).choose_spec hj⟩
theorem tab_ne {g h : Heap} {L' x : Addr} {o : PySem.Obj} {ps : Array Value} {l : List (Addr × PySem.Obj)} (N : News g L' h l) (h1 : (x, o) ∈ l) (h2 : (91, tabObj ps) ∈ l) (hc : o.cls ≠ .none) : x ≠ 91 := fun e => by
  have a := (N _ h1).1
  have b := (N _ h2).1
  dsimp only at a b
  rw [e, b] at a
  exact hc (by rw [← Option.some.inj a])
set_option maxHeartbeats 8000000 in
theorem str_specG (w : World) (x dx : Addr) (rv : List Value) (n : Nat) (t1 t2 : Tok) (ps : Array Value) (tl : List (Addr × PySem.Obj)) (nms : List (Str × Tok)) (rz : List (Bool × Nat)) (s : Shared) (A : Around) (hroom : A.depth + 3 < recursionLimit) (hh : A.handled = none) (hdx : dx ≠ x)
    (hrw : TwoAll tl (rowF nms) rv rz) (htl : ∀ p ∈ tl, s.heap.get? p.1 = some p.2) (hta : TupAll tl) (hn : rz.length ≤ 5) (hnm : ∀ q ∈ nms, q.1.length ≤ 3) (hps : TabOk ⟨68, 32, 68, 85⟩ ps) :
    SpecG w A 96 [.ref x] [(x, instL 122 dx rv.toArray n), (dx, pileDict w.params t1 t2), (91, tabObj ps)] s (fun v nl => ∃ (T : Str) (t : Tok) (ps' : Array Value), v = .str T t ∧ T.cps.toList = rowText (nms.map (·.1.cps.toList)) rz ∧ TabOk ⟨68, 32, 68, 85⟩ ps' ∧ nl = [(x, instL 122 dx rv.toArray n), (dx, pileDict w.params t1 t2), (91, tabObj ps')]) := by
  unfold SpecG
  k_fill
  intro p loose mean mg mb env outer A₀ base h₀ L m Q E B F X N T hA hf hke hret
  (refine' fn_enterG _ _ B F X N T hA hf hke hret ?k6 ?k7 (by omega) ?k9 ?kB ?_ ?c2 ?c3 ?c4 ?c5; (case k6 => k_is); (case k7 => k_is); (case k9 => exact BindsTo.of_eq rfl); (case c5 => decide); (case kB => exact locs rfl); (case c2 => exact rfl); (case c3 => exact rfl); (case c4 => exact rfl))
  intro g L' h₁ hg F' N' B' X' T' hlt
  (try dsimp only)
  try k_fold
  obtain ⟨bm, ob, M⟩ := bmod_of_top T'
  refine wpAny_execs_cons (wpAny_Return_some ?_)
  refine MethodCall_ (glob_name F' X' T' (by k_is) (GM.join (callWith_method1 (spliced_more ?_))) rfl (by with_unfolding_all rfl)) (by with_unfolding_all rfl)
  refine wpAny_GeneratorExp_walksQT hh rfl (by with_unfolding_all rfl) (by decide) (by with_unfolding_all rfl) (by with_unfolding_all rfl) (by with_unfolding_all rfl) (by decide) rfl (by show A.depth + 1 < _; omega) ?_ (fun _ => by with_unfolding_all rfl)
  refine ld F' (by with_unfolding_all rfl) ?_
  refine iter_L (K := hdK.heap_1 w.params) (X'.keeps F'.keep) (N' _ (.head _)).1 (pile_list _) (pile_iter _) ?_
  have F2 := F'.push { cls := .type "list_iterator", data := .fields #[.ref x, .int 0 0] }
  have N2 := N'.push F' { cls := .type "list_iterator", data := .fields #[.ref x, .int 0 0] }
  have C2 : CodeHd _ 95 91 := (codeHd_of_K X' (str_head _)).keeps F2.keep
  have P2 := (N2 _ (.tail _ (.tail _ (.tail _ (.head _))))).1
  refine ⟨T'.nolimit.keeps F2.keep, gen_code rfl C2 P2 hps fun code h3 tk3 ps' hx3 hz3 hP3 ht3 => ?_⟩
  have M3 := (M.keeps F2.keep).extBut (C2.tab P2) hx3
  refine wpAny_builtinsFor M3.ns M3.name M3.ne M3.obj M3.cls M3.dict M3.data ?_
  obtain ⟨Ts, xs, zs, hTs⟩ := two_fun hrw
  have hlen := hrw.len
  have zx := N2 _ (.tail _ (.head _))
  have zd := N2 _ (.tail _ (.tail _ (.head _)))
  have hx91 : x ≠ 91 := tab_ne N2 (.tail _ (.head _)) (.tail _ (.tail _ (.tail _ (.head _)))) (fun e => by have e : Value.ref 122 = .none := e; cases e)
  have hd91 : dx ≠ 91 := tab_ne N2 (.tail _ (.tail _ (.head _))) (.tail _ (.tail _ (.tail _ (.head _)))) (fun e => by have e : Value.type "dict" = .none := e; cases e)
  have hg91 : g.get? 91 = none := (N' _ (.tail _ (.tail _ (.head _)))).2.2
  have h91L : @LT.lt Nat _ 91 L' := hlt _ (.tail _ (.tail _ (.head _)))
  have hxL : @LT.lt Nat _ x L' := hlt _ (.head _)
  have hdL : @LT.lt Nat _ dx L' := hlt _ (.tail _ (.head _))
  have hL1 : @LT.lt Nat _ L' h₁.objs.size := F'.ns.lt
  have hgT : ∀ j, j < rv.length → g.get? (Ts j) = some (tupO (xs j) (zs j)) := fun j hj => by
    obtain ⟨_, hm, _⟩ := hTs j hj
    refine hg _ _ (fun hm2 => ?_) (htl _ hm)
    have key : ∀ o : PySem.Obj, (Ts j, o) ∈ [(x, instL 122 dx rv.toArray n), (dx, pileDict w.params t1 t2), (91, tabObj ps)] → o = tupO (xs j) (zs j) := fun o ho => by
      have h1 := (N _ ho).1
      have h2 := htl _ hm
      dsimp only at h1 h2
      rw [h2] at h1
      exact (Option.some.inj h1).symm
    obtain ⟨q, hq, e⟩ := List.mem_map.mp hm2
    have k2 := key q.2 (by rw [← e]; exact hq)
    simp only [List.mem_cons, List.not_mem_nil, or_false] at hq
    rcases hq with rfl | rfl | rfl
    · cases k2
    · have e2 : Value.type "dict" = .type "tuple" := congrArg PySem.Obj.cls k2
      injection e2 with e2
      exact absurd e2 (by decide)
    · have e2 : Value.none = .type "tuple" := congrArg PySem.Obj.cls k2
      cases e2
  have up : ∀ b o, b ≠ 91 → (h₁.push { cls := .type "list_iterator", data := .fields #[.ref x, .int 0 0] }).get? b = some o → h3.get? b = some o := fun b o hb e => hx3 b o hb e
  have g91 : ∀ b o, g.get? b = some o → b ≠ 91 := fun b o e q => by rw [q, hg91] at e; cases e
  have gup : ∀ b o, g.get? b = some o → h3.get? b = some o := fun b o e => up b o (g91 b o e) (F2.keep b o e)
  have gL : ∀ b o, g.get? b = some o → @LT.lt Nat _ b L' := fun b o e => Nat.lt_of_lt_of_le (Heap.lt_size e) F'.above
  have F3 : Fr g L' h3 _ := ⟨F2.ns.at' fun o e => up _ o (Nat.ne_of_gt h91L) e, fun b o e => gup b o e, F2.above⟩
  have hI3 : h3.IsListIter h₁.objs.size x 0 := ⟨_, up _ _ (Nat.ne_of_gt (Nat.lt_trans h91L hL1)) (Heap.get?_push_size _ rfl), rfl, rfl⟩
  have hS3 : SeqAt h3 x rv.toArray := ⟨_, _, up _ _ hx91 zx.1, rfl⟩
  have hT3 : ∀ k, k < rv.toArray.size → h3.IsTuple (Ts k) #[xs k, zs k] := fun k hk => ⟨_, gup _ _ (hgT k (by simpa using hk)), rfl, _, rfl⟩
  refine ⟨h₁.objs.size, _, [h₁.objs.size], rv.toArray.size, _, _, _, (fun _ => true), (fun i y => ∃ t, y = .str (rowZs nms rz i) t), rfl,
    (fun A' hA => walks_S hA h₁.objs.size x (Nat.ne_of_lt (Nat.lt_trans hxL hL1)) rv.toArray Ts (fun j => #[xs j, zs j]) (fun j hj => by simpa using (hTs j (by simpa using hj)).1) (fun j hj => Nat.ne_of_lt (Nat.lt_trans (gL _ _ (hgT j (by simpa using hj))) hL1))),
    (fun i vals hv => ⟨xs i, zs i, hv.2⟩), ⟨hI3, hS3, hT3⟩, ?f1, T'.nolimit.keeps gup, ?f2, ?f3, ?f4⟩
  case f1 =>
    intro b hb
    have live : ∀ b o, h3.get? b = some o → b < h3.objs.size := fun b o e => Heap.lt_size e
    rcases List.mem_cons.mp hb with rfl | hb
    · exact live _ _ hI3.choose_spec.1
    rcases List.mem_cons.mp hb with rfl | hb
    · exact live _ _ (up _ _ hx91 zx.1)
    obtain ⟨k, hk, rfl⟩ := List.mem_map.mp hb
    exact live _ _ (gup _ _ (hgT k (by simpa using List.mem_range.mp hk)))
  case f2 =>
    intro hm
    have e := List.mem_singleton.mp hm
    have h2 : @LT.lt Nat _ 2 h₁.objs.size := Nat.lt_trans (Nat.lt_trans (by decide) h91L) hL1
    exact absurd e (Nat.ne_of_lt h2)
  case f3 =>
    intro href hkeep
    constructor
    · intro A' E' i va vb s₂ m₂ _ _ _ _ _ _
      rw [List.forIn_nil]
      exact wpAny_pure ⟨rfl, _, _, rfl, fun _ _ h => h⟩
    · rintro A' E' i va vb s₂ m₂ hA' ⟨hi, hpv⟩ _ hns hma hmb hk2
      have hi : i < rv.length := by simpa using hi
      have e1 : va = xs i ∧ vb = zs i := by simpa using congrArg Array.toList hpv
      obtain ⟨rfl, rfl⟩ := e1
      obtain ⟨_, _, q, nm, ta, tb, tc, hq, hxe, hze, hnmq⟩ := hTs i hi
      have gk : ∀ b o, g.get? b = some o → s₂.heap.get? b = some o := fun b o e => hk2 b (List.mem_range.mpr (Heap.lt_size (gup b o e))) (fun hm => by
        exact absurd (List.mem_singleton.mp hm) (Nat.ne_of_lt (Nat.lt_trans (gL b o e) hL1))) o (hkeep _ _ (gup b o e))
      have hnmL := hnm _ (List.mem_of_getElem? hnmq)
      dsimp only at hnmL
      refine MethodCall_ (Name_function_global (by rfl) (by with_unfolding_all rfl) (loadGlobal_global (by exact T'.g.keeps gk) (mg_of X' T'.g (by k_is)) (GM.join (callWith_method1 (spliced_more (wpAny_Tuple (spliced_more (wpAny_Name (wpAny_loadName_local (by rfl) (by with_unfolding_all rfl) hns hma (spliced_more (wpAny_Name (wpAny_loadName_local (by rfl) (by with_unfolding_all rfl) hns hmb (spliced_none ⟨by rw [sizeLine_eq]; (show 2 ≤ 16777216); decide, spliced_none ?_⟩)) (by decide)))) (by decide)))))))) (by decide)) (by with_unfolding_all rfl)
      show wpAny _ _ (call (.builtin "str.join") [.str (Str.ofString "") _, .ref s₂.heap.objs.size]) _ _ _
      refine join_tupleW (ys := [look q.1, nm]) ⟨_, Heap.get?_push_size _ rfl, rfl, _, rfl⟩ ?_ (by decide +kernel) ?_ (fun t' k => ⟨⟨t', ?_⟩, _, _, rfl, fun b o e => Heap.get?_push_of_some _ e⟩)
      · rw [hxe, hze]
        exact .cons _ _ (.cons _ _ .nil)
      · have h2 : (look q.1).length = 1 := by cases q.1 <;> decide +kernel
        simp only [List.map_cons, List.map_nil, List.sum_cons, List.sum_nil, List.length_cons, List.length_nil]
        omega
      · rw [join_two]
        unfold rowZs
        rw [hq]
        dsimp only
        rw [hnmq]
        rfl
  case f4 =>
    intro a h5 tk5 gs hgb hag hsz5 hk5 W hat
    have F5 := F3.keeps hk5
    refine spliced_none ?_
    have W := W.in4_2
    have hpass : passing (fun _ => true) rv.toArray.size 0 = List.range rv.length := by simp [passing]
    show wpAny _ _ (call (.builtin "str.join") [.str (Str.ofString "") _, .ref a]) _ _ _
    refine SC.joinGen W (fun i s' st => st.1.typeIs) hat ?_ List.mem_cons_self (fun i v hv => ?_) (fun s' lt hm hacc => ?_) ?_
    · intro b hb
      show b < h5.objs.size
      rw [hsz5]
      rcases List.mem_cons.mp hb with rfl | hb
      · exact Nat.lt_succ_self _
      · rcases List.mem_cons.mp hb with rfl | hb
        · exact Nat.lt_succ_of_lt hag
        · exact Nat.lt_succ_of_lt (Nat.lt_trans (List.mem_range.mp hb) hag)
    · obtain ⟨_, _, t, e⟩ := hv
      exact ⟨_, t, e⟩
    · have hl3 : @LT.lt Nat _ L' h3.objs.size := F3.ns.lt
      have F6 := F5.moved hm (fun b hb => by
        rcases List.mem_cons.mp hb with rfl | hb
        · exact hl3
        · rw [List.mem_singleton.mp hb]; exact hL1)
      have hl : lt.map (·.1) = (List.range rv.length).map (rowZs nms rz) := by
        rw [hpass, List.length_range] at hacc
        have hsz : lt.length = rv.length := by simpa [strValues] using hacc.1
        apply List.ext_getElem?
        intro j
        by_cases hj : j < rv.length
        · have hj' : j < lt.length := hsz ▸ hj
          obtain ⟨i, hi, u, hv⟩ := hacc.2 j (.str lt[j].1 lt[j].2) (by simp [strValues, List.getElem?_eq_getElem hj'])
          rw [List.getElem?_range hj] at hi
          have hi := Option.some.inj hi
          injection hv with h1 _
          rw [← hi] at h1
          rw [List.getElem?_map, List.getElem?_map, List.getElem?_eq_getElem hj', List.getElem?_range hj]
          simp [h1]
        · rw [List.getElem?_eq_none (by simpa [hsz] using Nat.le_of_not_lt hj), List.getElem?_eq_none (by simpa using Nat.le_of_not_lt hj)]
      rw [hl]
      refine ⟨?_, fun t' k => ?_⟩
      · refine joinOk_of_weight ?_ (by decide +kernel)
        have h1 := sum_100 (rowZs nms rz) (fun i => rowZs_len hnm i) (List.range rv.length)
        rw [List.length_range] at h1
        rw [List.length_map, List.length_range]
        omega
      · have hkeep : ∀ b o, @LT.lt Nat _ b L' → h3.get? b = some o → s'.heap.get? b = some o := fun b o hb e => hm.heap b o (fun hmem => by
          rcases List.mem_cons.mp hmem with rfl | hmem
          · exact absurd hb (Nat.not_lt.mpr (Nat.le_of_lt hl3))
          · rw [List.mem_singleton.mp hmem] at hb; exact absurd hb (Nat.not_lt.mpr (Nat.le_of_lt hL1))) (hk5 b o e)
        obtain ⟨h', g', d', tk', os'⟩ := s'
        have hd' := hm.drawn
        have ho' := hm.os
        dsimp only at hd' ho'
        subst hd' ho'
        refine ⟨_, [(x, instL 122 dx rv.toArray n), (dx, pileDict w.params t1 t2), (91, tabObj ps')], F6, fun p hp => ?_, ⟨_, t', ps', rfl, ?_, ht3, rfl⟩, h', k, g', (fun hb => AllBare.moved (hb.push hgb) hm.gens), rfl⟩
        · rcases List.mem_cons.mp hp with rfl | hp
          · exact ⟨hkeep _ _ hxL (up _ _ hx91 zx.1), zx.2⟩
          rcases List.mem_cons.mp hp with rfl | hp
          · exact ⟨hkeep _ _ hdL (up _ _ hd91 zd.1), zd.2⟩
          · rw [List.mem_singleton.mp hp]
            exact ⟨hkeep _ _ h91L hP3, (N' _ (.tail _ (.tail _ (.head _)))).2⟩
        · rw [show Str.ofString "" = ⟨#[]⟩ by decide +kernel, join_empty, List.flatMap_map, hlen, rows_text]
    · rw [hpass, List.length_range, sizeLine_eq]; omega
end Mine
theorem Mine.top_off_S4 : True := by
  w_top off
  trivial
set_option maxRecDepth 100000
namespace Mine
noncomputable def TrnG (h₀ : Heap) (L I : Addr) (oI : PySem.Obj) (J : (Str → Option Value) → List (Addr × PySem.Obj) → Array GenState → Prop) (s : Shared) (f : Flow) (s' : Shared) : Prop :=
  f = .next ∧ ∃ h' tk' gs' m' nx, s' = { s with heap := h', toks := tk', gens := gs' } ∧ Fr h₀ L h' m' ∧ News h₀ L h' ((I, oI) :: nx) ∧ (∀ p ∈ nx, p.1 ≠ I) ∧ J m' nx gs'
theorem old_G {h₁ h' : Heap} {ps : Array Value} (hT : TabsAt [(95, 91)] h₁) (keep : ∀ b o, (ghostOf h₁ [(95, 91)]).get? b = some o → h'.get? b = some o) (h91 : h'.get? 91 = some (tabObj ps)) : OldK h₁ h' := by
  have hq := hT (95, 91) (.head _)
  refine ⟨fun b o e => ?_, fun b o e => ?_⟩
  · by_cases hb : b = 91
    · subst hb
      have e2 := hq.2
      dsimp only at e2
      rw [e] at e2
      have e3 := Option.some.inj e2
      subst e3
      exact .inr (.inl ⟨(hq.1.tab hq.2).isCodeTable, rfl, #[], ps, rfl, by rw [Array.empty_append]; exact h91⟩)
    · exact .inl (keep b o (ghost_ne e fun hm => hb (List.mem_singleton.mp hm)))
  · by_cases hb : b = 91
    · exact ⟨_, hb ▸ h91⟩
    · exact ⟨o, keep b o (ghost_ne e fun hm => hb (List.mem_singleton.mp hm))⟩
noncomputable def ForPost (prog : Program) (w : World) (A : Around) (h₀ : Heap) (env : Env) (x : Str) (body : List Stmt) (E : Value → Shared → Prop) (Q : Flow → Shared → Prop) (J : Nat → (Str → Option Value) → List (Addr × PySem.Obj) → Array GenState → Prop) (n : Nat) (xv : Value) (s₁ : Shared) : Prop :=
  ∃ r t₀ u₀ v₀ m₀ news, xv = .ref r ∧ IsRange s₁.heap r 0 (n : Int) 1 t₀ u₀ v₀ ∧ Fr h₀ env.locals s₁.heap m₀ ∧ News h₀ env.locals s₁.heap news ∧ J 0 m₀ news s₁.gens ∧
      (∀ i t m₁ nx h tk gs I oI, i < n → J i m₁ nx gs → (∀ p ∈ nx, p.1 ≠ I) → Fr h₀ env.locals h (fun y => if y = x then some (.int (i : Int) t) else m₁ y) → News h₀ env.locals h ((I, oI) :: nx) →
        wpAny (model prog w) A (execs body env) (TrnG h₀ env.locals I oI (J (i + 1)) s₁) E { s₁ with heap := h, toks := tk, gens := gs }) ∧
      (∀ m₁ nx h tk gs, J n m₁ nx gs → Fr h₀ env.locals h m₁ → News h₀ env.locals h nx → Q .next { s₁ with heap := h, toks := tk, gens := gs })
section
variable {prog : Program} {w : World} {A : Around} {E : Value → Shared → Prop} {s : Shared} {env : Env} {h₀ : Heap} {body : List Stmt} {Q : Flow → Shared → Prop}
theorem for_gens {x : Str} {px pos : Pos} {iter : PySem.Expr} {n : Nat} (J : Nat → (Str → Option Value) → List (Addr × PySem.Obj) → Array GenState → Prop) (hh : A.handled = none) (hx : env.kindOf x = some .local)
    (hp : (env.scope.kind == .class || (env.scope.kind == .module && env.locals != env.globals)) = false) (hn : n ≤ 1000)
    (h : wpAny (model prog w) A (eval iter env) (ForPost prog w A h₀ env x body E Q J n) E s)
    (hs : ∀ x, foldedSetIterable iter env x = pure x) (hE : PassesOwn (model prog w) A env E) :
    wpAny (model prog w) A (exec (.For (.Name x px) iter body [] pos) env) Q E s := by
  refine wpAny_For (wpAny_mono h (fun xv s₁ h₁ => ?_) fun _ _ e => e) hs
  obtain ⟨r, t₀, u₀, v₀, m₀, news, rfl, hr, F, N, hj, turn, done⟩ := h₁
  refine wpAny_pyIter_range hr (small_one (by omega) (by omega) (by omega) (by omega)) ?_
  have W := Walks.range (prog := prog) (w := w) hh s₁.heap.objs.size 0 1 n
  have hI0 : h₀.get? s₁.heap.objs.size = none := next_is_new F
  have hLI : env.locals ≠ s₁.heap.objs.size := fun e => absurd F.ns.lt (e ▸ Nat.lt_irrefl _)
  have hoff0 : ∀ p ∈ news, p.1 ≠ s₁.heap.objs.size := fun p hp e => absurd (Heap.lt_size (N p hp).1) (e ▸ Nat.lt_irrefl _)
  refine codeAny_forLoop (R := fun r s' => match r with | .ok f => Q f s' | .error e => cameBackBy (model prog w) A env E e s')
    (fun k s' => ∃ h' tk gs m' nx i, s' = { s₁ with heap := h', toks := tk, gens := gs } ∧ IsRangeIter h' s₁.heap.objs.size (0 + (i : Nat) * 1) ((n : Int) - (i : Nat)) 1 ∧ Fr h₀ env.locals h' m' ∧ News h₀ env.locals h' nx ∧ (∀ p ∈ nx, p.1 ≠ s₁.heap.objs.size) ∧ J i m' nx gs ∧ i ≤ n ∧ k = n + 1 - i) ?_ (n + 1)
    ⟨_, _, s₁.gens, m₀, news, 0, rfl, ?_, F.push _, (fun p hp => ⟨Heap.get?_push_of_some _ (N p hp).1, (N p hp).2⟩), hoff0, hj, Nat.zero_le _, rfl⟩
  · rintro k s' ⟨h', tk, gs, m', nx, i, rfl, hst', F', N', hoff, hJ, hi, rfl⟩
    have next : ∀ h₁ : Heap, (∀ b o, b ∉ [s₁.heap.objs.size] → h'.get? b = some o → h₁.get? b = some o) → Fr h₀ env.locals h₁ m' ∧ News h₀ env.locals h₁ nx := fun h₁ hk₁ =>
      ⟨⟨F'.ns.at' fun o e => hk₁ _ o (fun hm => hLI (List.mem_singleton.mp hm)) e, fun b o e => hk₁ b o (fun hm => by rw [List.mem_singleton.mp hm, hI0] at e; cases e) (F'.keep b o e), F'.above⟩,
        fun p hp => ⟨hk₁ _ _ (fun hm => hoff p hp (List.mem_singleton.mp hm)) (N' p hp).1, (N' p hp).2⟩⟩
    by_cases hlt : i < n
    · refine W.item i _ _ _ hlt hst' fun v h₁ tk₁ hP hst₁ hk₁ => ?_
      obtain ⟨F₁, N₁⟩ := next h₁ hk₁
      obtain ⟨t, rfl⟩ := hP
      dsimp only
      refine wpAny_assign_Name (wpAny_storeName_local hx F₁.ns (fun h₂ hn₂ hs₂ => ?_) hp)
      have F₂ := F₁.set hn₂ hs₂
      have hI₂ := (hs₂.2 _ (fun e => hLI e.symm)).trans hst₁
      have N₂ : News h₀ env.locals h₂ ((s₁.heap.objs.size, _) :: nx) := fun p hp => by
        rcases List.mem_cons.mp hp with rfl | hp
        · exact ⟨hI₂, fun e => hLI e.symm, hI0⟩
        · exact ⟨(hs₂.2 _ (N₁ p hp).2.1).trans (N₁ p hp).1, (N₁ p hp).2⟩
      have F₃ : Fr h₀ env.locals h₂ (fun y => if y = x then some (.int (i : Int) t) else m' y) := by
        have e : (0 : Int) + (i : Int) * 1 = (i : Int) := by omega
        rw [e] at F₂
        exact F₂
      refine wpAny_mono (wpAny_passesOwn hE (turn i t m' nx h₂ (tk₁ + 1) gs _ _ hlt hJ hoff F₃ N₂)) (fun f s₃ h₃ => ?_) fun _ _ e => e
      obtain ⟨rfl, h', tk', gs', m', nx', rfl, F', N', hoff', hJ'⟩ := h₃
      exact ⟨n + 1 - (i + 1), by omega, h', tk', gs', m', nx', i + 1, rfl, (N' _ (.head _)).1, F', fun p hp => N' p (.tail _ hp), hoff', hJ', hlt, rfl⟩
    · have hin : i = n := by omega
      subst hin
      refine W.done _ _ _ hst' fun h₁ tk₁ hk₁ => wpAny_execs_nil ?_
      obtain ⟨F₁, N₁⟩ := next h₁ hk₁
      exact done m' nx h₁ tk₁ gs hJ F₁ N₁
  · show IsRangeIter _ _ _ _ _
    have hrs : Builtin.Range.rangeSize 0 (n : Int) 1 = (n : Int) := by rw [rangeSize_one]; split <;> omega
    rw [hrs]
    simpa using Heap.get?_push_size _ rfl
end
end Mine
theorem Mine.top_off_Z1 : True := by
  w_top off
  trivial
set_option maxRecDepth 100000
namespace Mine
noncomputable def OrJ (NM : Addr) (nms : List (Str × Tok)) (kk : Nat) (b : Int) (tb : Tok) (wd : Bool) (i : Nat) (m : Str → Option Value) (nx : List (Addr × PySem.Obj)) : Prop :=
  ∃ (to : Tok) (u : Str → Option Value), m = mp [("names", .ref NM), ("drawn", .int b tb), ("wide", .bool wd), ("orders", .int ((fac (i + 1) : Nat) : Int) to)] u ∧ nx = [(NM, listOf (strValues nms).toArray kk), (91, tabObj #[])]
theorem fac_room {n : Nat} (h1 : 3 ≤ n) (h2 : n ≤ 5) : 1 ≤ fac n ∧ fac n ≤ 120 := by
  rcases rows_small n h1 h2 with rfl | rfl | rfl <;> decide
noncomputable def PiJ (P : Params) (x dx NM : Addr) (wd : Bool) (t1 t2 : Tok) (ords : Nat) (hour : Int) (nms : List (Str × Tok)) (zs : List (Bool × Nat)) (rest : List (Addr × PySem.Obj)) (i : Nat) (m : Str → Option Value) (nx : List (Addr × PySem.Obj)) : Prop :=
  ∃ (pv : List Value) (np : Nat) (tl : List (Addr × PySem.Obj)) (th to : Tok) (u : Str → Option Value), m = mp [("names", .ref NM), ("wide", .bool wd), ("orders", .int ((ords : Nat) : Int) to), ("hour", .int hour th), ("pile", .ref x)] u ∧
    nx = (x, instL 122 dx pv.toArray np) :: (dx, pileDict P t1 t2) :: (rest ++ tl) ∧ TupAll tl ∧ TwoAll tl (rowF nms) pv (zs.take i)
noncomputable def KeepAll (l : List (Addr × PySem.Obj)) : Prop := ∀ p ∈ l, p.2.cls = .type "list" ∨ p.2.cls = .type "tuple" ∨ p.2.cls = .none
theorem keepAll_ne {P : Params} {t1 t2 : Tok} {dx : Addr} {its : Array Value} {n : Nat} {o : PySem.Obj} (h : o.cls = .type "list" ∨ o.cls = .type "tuple" ∨ o.cls = .none) : o.cls ≠ (instL 122 dx its n).cls ∧ o.cls ≠ (pileDict P t1 t2).cls := by
  rcases h with h | h | h
  · exact ⟨inst_ne (.inl h), dict_ne (.inl h)⟩
  · exact ⟨inst_ne (.inr h), dict_ne (.inr h)⟩
  · have e2 : (pileDict P t1 t2).cls = .type "dict" := rfl
    refine ⟨fun e => ?_, fun e => ?_⟩
    · rw [h] at e; cases e
    · rw [h, e2] at e; cases e
theorem keep_off2 {P : Params} {g h : Heap} {L' x dx : Addr} {t1 t2 : Tok} {its : Array Value} {n : Nat} {own keep : List (Addr × PySem.Obj)} (N : News g L' h (own ++ (x, instL 122 dx its n) :: (dx, pileDict P t1 t2) :: keep)) (hown : ∀ p ∈ own, p.1 ≠ x ∧ p.1 ≠ dx) (hk : KeepAll keep) :
    ∀ p ∈ own ++ keep, p.1 ∉ [(x, instL 122 dx its n), (dx, pileDict P t1 t2)].map (·.1) := by
  intro p hp hm
  have hm : p.1 = x ∨ p.1 = dx := by simpa using hm
  rcases List.mem_append.mp hp with hp | hp
  · rcases hm with e | e
    · exact (hown p hp).1 e
    · exact (hown p hp).2 e
  · have hc := keepAll_ne (P := P) (t1 := t1) (t2 := t2) (dx := dx) (its := its) (n := n) (hk p hp)
    have h1 : (p.1, p.2) ∈ own ++ (x, instL 122 dx its n) :: (dx, pileDict P t1 t2) :: keep := List.mem_append_right _ (.tail _ (.tail _ hp))
    rcases hm with e | e
    · exact two_off N h1 (List.mem_append_right _ (.head _)) hc.1 e
    · exact two_off N h1 (List.mem_append_right _ (.tail _ (.head _))) hc.2 e
theorem pi_turn {P : Params} {g h' : Heap} {L' I x dx NM T2 : Addr} {oI : PySem.Obj} {t1 t2 tz ty tc : Tok} {b wd : Bool} {nm : Str} {pv : List Value} {np i tk j ords : Nat} {hour : Int} {tl rest : List (Addr × PySem.Obj)} {nms : List (Str × Tok)} {zs : List (Bool × Nat)} {m' : Str → Option Value} {s : Shared} {th to : Tok}
    (F : Fr g L' h' m') (hm : MpOk m' [("names", .ref NM), ("wide", .bool wd), ("orders", .int ((ords : Nat) : Int) to), ("hour", .int hour th), ("pile", .ref x)])
    (N : News g L' h' ([(T2, tupO (.str (look b) tz) (.str nm ty)), (x, instL 122 dx (pv.toArray.push (.ref T2)) (np + 1)), (dx, pileDict P t1 t2)] ++ ((I, oI) :: (rest ++ tl))))
    (hd : ∀ q ∈ [(T2, tupO (.str (look b) tz) (.str nm ty)), (x, instL 122 dx (pv.toArray.push (.ref T2)) (np + 1)), (dx, pileDict P t1 t2)], ∀ p ∈ ((I, oI) :: (rest ++ tl)), q.1 ≠ p.1)
    (hoff : ∀ p ∈ rest ++ tl, p.1 ≠ I) (hta : TupAll tl) (htw : TwoAll tl (rowF nms) pv (zs.take i)) (hz : zs[i]? = some (b, j)) (hnm : nms[j]? = some (nm, tc)) :
    Trn g L' I oI (PiJ P x dx NM wd t1 t2 ords hour nms zs rest (i + 1)) s .next { s with heap := h', toks := tk } := by
  have ht : zs.take (i + 1) = zs.take i ++ [(b, j)] := by rw [List.take_add_one, hz]; rfl
  refine Trn.intro ((x, instL 122 dx (pv ++ [Value.ref T2]).toArray (np + 1)) :: (dx, pileDict P t1 t2) :: (rest ++ ((T2, tupO (.str (look b) tz) (.str nm ty)) :: tl))) F N (fun p hp => ?_) (by simp) (fun p hp => ?_)
    ⟨pv ++ [Value.ref T2], np + 1, _, th, to, _, mp_of hm, rfl, fun p hp => ?_, ?_⟩
  · rw [List.push_toArray]
    simp only [List.mem_cons, List.mem_append, List.not_mem_nil, or_false] at hp ⊢
    rcases hp with h | h | h | h | h <;> simp [h]
  · rcases List.mem_cons.mp hp with rfl | hp
    · exact hd _ (.tail _ (.head _)) _ (.head _)
    rcases List.mem_cons.mp hp with rfl | hp
    · exact hd _ (.tail _ (.tail _ (.head _))) _ (.head _)
    rcases List.mem_append.mp hp with hp | hp
    · exact hoff _ (List.mem_append_left _ hp)
    rcases List.mem_cons.mp hp with rfl | hp
    · exact hd _ (.head _) _ (.head _)
    · exact hoff _ (List.mem_append_right _ hp)
  · rcases List.mem_cons.mp hp with rfl | hp
    · exact ⟨_, _, rfl⟩
    · exact hta p hp
  · rw [ht]
    exact TwoAll.app (htw.mono fun p hp => .tail _ hp) (TwoAll.one (.head _) ⟨⟨_, rfl⟩, nm, ty, tc, hnm, rfl⟩)
theorem keepAll_rest {NM R : Addr} {a b : Array Value} {k1 k2 : Nat} {ps : Array Value} {tl₀ tl : List (Addr × PySem.Obj)} (h0 : TupAll tl₀) (h1 : TupAll tl) : KeepAll (((NM, listOf a k1) :: (91, tabObj ps) :: (R, listOf b k2) :: tl₀) ++ tl) := fun p hp => by
  have tup : ∀ {l : List (Addr × PySem.Obj)}, TupAll l → p ∈ l → p.2.cls = .type "tuple" := fun h hp => by
    obtain ⟨u, v, e⟩ := h p hp
    rw [e]; rfl
  rcases List.mem_append.mp hp with hp | hp
  · rcases List.mem_cons.mp hp with rfl | hp
    · exact .inl rfl
    rcases List.mem_cons.mp hp with rfl | hp
    · exact .inr (.inr rfl)
    rcases List.mem_cons.mp hp with rfl | hp
    · exact .inl rfl
    · exact .inr (.inl (tup h0 hp))
  · exact .inr (.inl (tup h1 hp))
noncomputable def PiD (P : Params) (x dx NM : Addr) (wd : Bool) (t1 t2 : Tok) (ords : Nat) (hour : Int) (nms : List (Str × Tok)) (oN : PySem.Obj) (zs : List (Bool × Nat)) (m : Str → Option Value) (nx : List (Addr × PySem.Obj)) : Prop :=
  ∃ (pv : List Value) (np : Nat) (tl : List (Addr × PySem.Obj)) (th to : Tok) (u : Str → Option Value), m = mp [("names", .ref NM), ("wide", .bool wd), ("orders", .int ((ords : Nat) : Int) to), ("hour", .int hour th), ("pile", .ref x)] u ∧
    nx = (x, instL 122 dx pv.toArray np) :: (dx, pileDict P t1 t2) :: (91, tabObj #[]) :: (NM, oN) :: tl ∧ TupAll tl ∧ TwoAll tl (rowF nms) pv zs
theorem pi_done {P : Params} {g h' : Heap} {L' x dx NM R : Addr} {t1 t2 : Tok} {wd : Bool} {ords tk n : Nat} {hour : Int} {nms : List (Str × Tok)} {zs : List (Bool × Nat)} {oN : PySem.Obj} {a : Array Value} {k : Nat} {tl₀ : List (Addr × PySem.Obj)} {m' : Str → Option Value} {nx : List (Addr × PySem.Obj)} {s : Shared}
    (F : Fr g L' h' m') (N : News g L' h' nx) (hn : n = zs.length) (hJ : PiJ P x dx NM wd t1 t2 ords hour nms zs ((NM, oN) :: (91, tabObj #[]) :: (R, listOf a k) :: tl₀) n m' nx) : Nxt g L' s (PiD P x dx NM wd t1 t2 ords hour nms oN zs) .next { s with heap := h', toks := tk } := by
  obtain ⟨pv, np, tl, th, to, u, rfl, rfl, hta, htw⟩ := hJ
  rw [hn, List.take_length] at htw
  refine Nxt.intro F (fun p hp => N p ?_) ⟨pv, np, tl, th, to, u, rfl, rfl, hta, htw⟩
  simp only [List.mem_cons, List.mem_append] at hp ⊢
  rcases hp with h | h | h | h | h <;> simp [h]
noncomputable def LwJ (P : Params) (x dx NM : Addr) (wd : Bool) (t1 t2 : Tok) (idx : List Nat) (nms : List (Str × Tok)) (oN : PySem.Obj) (i : Nat) (m : Str → Option Value) (nx : List (Addr × PySem.Obj)) (gs : Array GenState) : Prop :=
  ∃ (h np : Nat) (pv : List Value) (tl : List (Addr × PySem.Obj)) (ps : Array Value) (T : Str) (th to tp : Tok) (u : Str → Option Value),
    m = mp [("names", .ref NM), ("wide", .bool wd), ("orders", .int ((fac idx.length : Nat) : Int) to), ("hour", .int ((h : Nat) : Int) th), ("pile", .ref x), ("page", .str T tp)] u ∧
    nx = (x, instL 122 dx pv.toArray np) :: (dx, pileDict P t1 t2) :: (91, tabObj ps) :: (NM, oN) :: tl ∧ TupAll tl ∧ TwoAll tl (rowF nms) pv (rowZ (h : Int) idx.length) ∧ h < fac idx.length ∧ TabOk ⟨68, 32, 68, 85⟩ ps ∧ AllBare gs ∧
    (1 ≤ i → T.cps.toList = pageL wd idx (rowZ (h : Int) idx.length))
theorem sg_len3 {j : Nat} (hj : j < 48) : (sg j).length ≤ 3 := by
  have h := List.all_eq_true.mp sg_len j (List.mem_range.mpr hj)
  rw [Bool.and_eq_true, decide_eq_true_eq] at h
  exact h.1
theorem num_is {nms : List (Str × Tok)} {idx : List Nat} (hnm : nms.map (·.1.cps.toList) = idx.map sg) (hb : ∀ j ∈ idx, j < 48) {i : Nat} (hi : i < idx.length) : numOf nms i = ((7 + idx.getD i 0 : Nat) : Int) := by
  unfold numOf
  rw [hnm, sg_getD idx hi, sg_num (idx_48 hb hi)]
  rfl
theorem keepAll_law {NM : Addr} {a : Array Value} {k1 : Nat} {ps : Array Value} {tl : List (Addr × PySem.Obj)} (h1 : TupAll tl) : KeepAll ((91, tabObj ps) :: (NM, listOf a k1) :: tl) := fun p hp => by
  rcases List.mem_cons.mp hp with rfl | hp
  · exact .inr (.inr rfl)
  rcases List.mem_cons.mp hp with rfl | hp
  · exact .inl rfl
  · obtain ⟨u, v, e⟩ := h1 p hp
    rw [e]; exact .inr (.inl rfl)
theorem lw_order {g h : Heap} {L' : Addr} {a b c d e : Addr × PySem.Obj} {tl2 tl : List (Addr × PySem.Obj)} (N : News g L' h ((a :: b :: tl2) ++ (c :: d :: e :: tl))) : News g L' h (c :: a :: b :: d :: e :: tl2) := fun p hp => N p (by
  simp only [List.mem_cons, List.mem_append] at hp ⊢
  rcases hp with h | h | h | h | h | h <;> simp [h])
theorem lw_off {I : Addr} {oI a₀ b₀ : PySem.Obj} {x dx : Addr} {a b d e : Addr × PySem.Obj} {tl2 tl : List (Addr × PySem.Obj)} (hoff : ∀ p ∈ ((x, a₀) :: (dx, b₀) :: d :: e :: tl), p.1 ≠ I) (hd : ∀ q ∈ (a :: b :: tl2), ∀ p ∈ ((I, oI) :: d :: e :: tl), q.1 ≠ p.1) :
    ∀ p ∈ (a :: b :: d :: e :: tl2), p.1 ≠ I := fun p hp => by
  simp only [List.mem_cons] at hp
  rcases hp with rfl | rfl | rfl | rfl | hp
  · exact hd _ (.head _) _ (.head _)
  · exact hd _ (.tail _ (.head _)) _ (.head _)
  · exact hoff _ (.tail _ (.tail _ (.head _)))
  · exact hoff _ (.tail _ (.tail _ (.tail _ (.head _))))
  · exact hd _ (.tail _ (.tail _ hp)) _ (.head _)
theorem min_if (a b : Nat) (h : 1 ≤ b) : (if (b : Int) - 1 < (a : Int) + 1 then (b : Int) - 1 else (a : Int) + 1) = ((min (a + 1) (b - 1) : Nat) : Int) := by
  split <;> omega
theorem lw_dis3 {P : Params} {g h : Heap} {L' I x dx NM : Addr} {oI : PySem.Obj} {its a : Array Value} {n k : Nat} {t1 t2 : Tok} {ps : Array Value} {tl : List (Addr × PySem.Obj)}
    (N : News g L' h ((I, oI) :: (x, instL 122 dx its n) :: (dx, pileDict P t1 t2) :: (91, tabObj ps) :: (NM, listOf a k) :: tl))
    (hoff : ∀ p ∈ ((x, instL 122 dx its n) :: (dx, pileDict P t1 t2) :: (91, tabObj ps) :: (NM, listOf a k) :: tl), p.1 ≠ I) (hta : TupAll tl) :
    ∀ p ∈ ((I, oI) :: (NM, listOf a k) :: tl), p.1 ∉ [(x, instL 122 dx its n), (dx, pileDict P t1 t2), (91, tabObj ps)].map (·.1) := by
  have h1 := keep_off2 (own := [(I, oI)]) N (fun p hp => by rw [List.mem_singleton.mp hp]; exact ⟨(hoff _ (.head _)).symm, (hoff _ (.tail _ (.head _))).symm⟩) (keepAll_law hta)
  intro p hp hm
  have h2 : p ∈ [(I, oI)] ++ (91, tabObj ps) :: (NM, listOf a k) :: tl := by
    simp only [List.mem_cons, List.mem_append, List.not_mem_nil, or_false] at hp ⊢
    rcases hp with h | h | h <;> simp [h]
  have h3 := h1 p h2
  have hm : p.1 = x ∨ p.1 = dx ∨ p.1 = 91 := by simpa using hm
  rcases hm with e | e | e
  · exact h3 (by rw [e]; simp)
  · exact h3 (by rw [e]; simp)
  · rcases List.mem_cons.mp hp with rfl | hp
    · exact hoff _ (.tail _ (.tail _ (.head _))) e.symm
    · refine tab_ne N (x := p.1) (o := p.2) (.tail _ (.tail _ (.tail _ (.tail _ hp)))) (.tail _ (.tail _ (.tail _ (.head _)))) ?_ e
      rcases List.mem_cons.mp hp with rfl | hp
      · intro e; cases e
      · obtain ⟨u, v, e⟩ := hta p hp
        rw [e]; intro e; cases e
theorem lw_hid3 {g h : Heap} {L' : Addr} {a b c d : Addr × PySem.Obj} {l : List (Addr × PySem.Obj)} (N : News g L' h (a :: b :: c :: d :: l)) : News g L' h [b, c, d] := fun p hp => N p (by
  simp only [List.mem_cons, List.not_mem_nil, or_false] at hp ⊢
  rcases hp with h | h | h <;> simp [h])
theorem lw_keep3 {g h : Heap} {L' : Addr} {a b c d : Addr × PySem.Obj} {l : List (Addr × PySem.Obj)} (N : News g L' h (a :: b :: c :: d :: l)) : News g L' h (a :: l) := fun p hp => N p (by
  rcases List.mem_cons.mp hp with rfl | hp
  · exact .head _
  · exact .tail _ (.tail _ (.tail _ (.tail _ hp))))
theorem lw_order3 {g h : Heap} {L' : Addr} {a b c d : Addr × PySem.Obj} {l : List (Addr × PySem.Obj)} (N : News g L' h ([b, c, d] ++ (a :: l))) : News g L' h (a :: b :: c :: d :: l) := fun p hp => N p (by
  simp only [List.mem_cons, List.mem_append, List.not_mem_nil, or_false] at hp ⊢
  rcases hp with h | h | h | h | h <;> simp [h])
theorem lw_off3 {I a b c : Addr} {oa ob oc oc' : PySem.Obj} {l : List (Addr × PySem.Obj)} (h : ∀ p ∈ ((a, oa) :: (b, ob) :: (c, oc) :: l), p.1 ≠ I) : ∀ p ∈ ((a, oa) :: (b, ob) :: (c, oc') :: l), p.1 ≠ I := fun p hp => by
  rcases List.mem_cons.mp hp with rfl | hp
  · exact h _ (.head _)
  rcases List.mem_cons.mp hp with rfl | hp
  · exact h _ (.tail _ (.head _))
  rcases List.mem_cons.mp hp with rfl | hp
  · exact h (c, oc) (.tail _ (.tail _ (.head _)))
  · exact h _ (.tail _ (.tail _ (.tail _ hp)))
theorem row_len {nms : List (Str × Tok)} {rz : List (Bool × Nat)} {T : Str} (hn : ∀ q ∈ nms, q.1.length ≤ 3) (h5 : rz.length ≤ 5) (hT : T.cps.toList = rowText (nms.map (·.1.cps.toList)) rz) : T.length ≤ 22 := by
  have h1 := rowText_len hn rz
  rw [← hT] at h1
  have : T.cps.toList.length = T.length := by simp [Str.length]
  omega
theorem str_ext {a b : Str} (h : a.cps.toList = b.cps.toList) : a = b := Str.ext' (Array.ext' h)
theorem page_esc {idx : List Nat} (hb : ∀ j ∈ idx, j < 48) {rz : List (Bool × Nat)} {T : Str} (hT : T.cps.toList = rowText (idx.map sg) rz) : (escC T).cps.toList = pageL false idx rz ∧ (escW T).cps.toList = pageL true idx rz := by
  have hq : ∀ k ∈ T.cps.toList, k ≠ 34 ∧ k ≠ 10 ∧ k ≠ 13 := fun k hk => by rw [hT] at hk; exact rowText_mem hb hk
  constructor
  · rw [esc_told hq, hT]; rfl
  · rw [escW_told hq, hT]; rfl
theorem page_len {nms : List (Str × Tok)} {idx : List Nat} {rz : List (Bool × Nat)} {wide : Bool} (hnm : nms.map (·.1.cps.toList) = idx.map sg) (hn : ∀ q ∈ nms, q.1.length ≤ 3) (h5 : rz.length ≤ 5) : (pageL wide idx rz).length ≤ 1000 := by
  unfold pageL
  rw [← hnm, List.length_flatMap]
  have h1 := tell_sum wide (rowText (nms.map (·.1.cps.toList)) rz)
  have h2 := rowText_len hn rz
  have e : (rowText (nms.map (·.1.cps.toList)) rz).map (fun c => (tell wide c).cps.toList.length) = ((rowText (nms.map (·.1.cps.toList)) rz).map (tell wide)).map (·.length) := by
    rw [List.map_map]
    apply List.map_congr_left
    intro c _
    simp [Str.length]
  rw [e]
  omega
theorem fac_small {i : Nat} (h : i < 4) : fac (i + 1) ≤ 24 ∧ 1 ≤ fac (i + 1) := by
  have : i = 0 ∨ i = 1 ∨ i = 2 ∨ i = 3 := by omega
  rcases this with rfl | rfl | rfl | rfl <;> decide
end Mine
theorem Mine.top_off_Z2 : True := by
  w_top off
  trivial
namespace Mine
local macro_rules | `(tactic| walk_at "no word 7 0") => `(tactic| skip)
local macro_rules | `(tactic| walk_at "no word 7 1") => `(tactic| skip)
local macro_rules | `(tactic| walk_at "no word 7 2") => `(tactic| skip)
local macro_rules | `(tactic| walk_at "no word 7 3") => `(tactic| skip)
local macro_rules | `(tactic| walk_at "call type:range") => `(tactic| ((with_reducible show wpAny _ _ (call (Value.type _) [Value.int _ _, Value.int _ _]) _ _ _); (rename Fr _ _ _ _ => F'); (rename News _ _ _ _ => N'); (with_unfolding_all refine range2_rows F' N' ?_); intro _ _ _ _ _ _ _ _ _))
local macro_rules | `(tactic| walk_at "call type:range") => `(tactic| ((with_reducible show wpAny _ _ (call (Value.type _) [Value.int _ _]) _ _ _); (rename Fr _ _ _ _ => F'); (rename News _ _ _ _ => N'); (with_unfolding_all refine range1_rows F' N' ?_); intro _ _ _ _ _ _ _ _ _))
local macro_rules | `(tactic| walk_at "call builtin:len") => `(tactic| ((with_reducible show wpAny _ _ (call (Value.builtin _) [Value.ref _]) _ _ _); (rename News _ _ _ _ => N'); with_unfolding_all refine len_list (N'.isList (.head _)) ?_ ?_))
set_option maxRecDepth 100000 in
set_option maxHeartbeats 8000000 in
theorem lawW : PySem.Challenge.rw_xo0027_01.Holds := by
  refine hd ?_
  k_fill
  intro w s₀ s₁ mg mb G Y fa o pm cd doc dV kV ho hd0 hcd hD hmg hg args vals as hpre hlay hrd hwl hlo
  have KX := km_in_of Y
  have hT8 := km_tabs_of Y 91 (by simp)
  have X := (Ground.X G).1
  have V := (Ground.X G).2
  refine Ground.open G ?_
  intro T B D TE TW
  try (refine guard_noD D (by decide +kernel) ?_; clear D)
  clear hmg
  wrow_args hpre hlay hrd hwl hlo
  all_goals (
    first | refine callC_kw (enter_call ?_) | refine enter_call ?_ | refine callC_kw (enter_callW ?_) | refine enter_callW ?_ | w_how
    w_top on
    w_call any ho hd0 hcd hD T F
    clear hd0
    skip)
  all_goals try k_fold
  rename IntsAre _ _ => hI
  rename Heap.IsList _ _ _ => hL
  rename Fr _ _ _ _ => F
  rename News _ _ _ _ => N0
  rename PyData.layable0 _ = true => hlay1
  have hTab : TabsAt [(95, 91)] s₁.heap := List.forall_mem_cons.mpr ⟨⟨codeHd_of_K KX (str_head _), hT8⟩, fun _ h => nomatch h⟩
  have F1 := ghost_fr hTab F
  have N1 := ghost_news hTab F N0
  have X1 := ghost_K hTab KX (by kernel_rfl)
  have T1 := ghost_top hTab T
  have B1 := ghost_below hTab
  have hL1 := ghost_list hTab hL
  dsimp only [List.nil_append, List.map_cons, List.map_nil] at N1
  have hos : ∀ (h' : Heap) (gs : Array GenState) (tk : Nat), (({ s₁ with heap := h', toks := tk, gens := gs } : Shared)).os = s₁.os := fun _ _ _ => rfl
  refine wpAny_mono (Q := fun f s' => f = .ret (.bool true) ∧ ∃ h' tk gs ps, s' = { s₁ with heap := h', toks := tk, gens := gs } ∧ AllBare gs ∧ (∀ b o, (ghostOf s₁.heap [(95, 91)]).get? b = some o → h'.get? b = some o) ∧ h'.get? 91 = some (tabObj ps)) (E := fun _ _ => False) ?_ (fun f s' hf => ?_) fun _ _ z => z.elim
  rotate_left
  · obtain ⟨rfl, h', tk, gs, ps, rfl, hgs, hkp, h91⟩ := hf
    dsimp only
    exact ⟨.inl ⟨.bool true, .bool true, [], rfl, fun _ => rfl, .bool true, by first | exact postW_of (by wrow_shape) (by wtm_val) rfl | with_unfolding_all rfl, unshared_nil⟩, old_G hTab hkp h91, rfl, hgs⟩
  clear hTab F N0 KX T hL hT8 Y G X V B TE TW hD hcd ho hos
  have hgb : AllBare s₁.gens := .of_eq hg
  clear hg
  generalize ghostOf s₁.heap [(95, 91)] = g at *
  lgec_go0
  refine draw_spec w _ _ _ _ (Fr.lst F1 hL1) hI hlay1 (by omega) _ _ _ _ _ _ _ _ _ _ _ _ _ _ _ B1 F1 X1 (fun _ h => nomatch h) T1 rfl rfl rfl ?_
  rintro v nl h2 tk2 F2 K2 hn2 ⟨T, NM, nms, kk, b, tb, wd, rfl, rfl, hb0, hb1, idx, hnm, hip, hi48, hi3, hi5⟩
  have N2 := news_add F1 N1 K2 hn2
  clear F1 N1 K2 hn2 hI hL1 hlay1
  dsimp only
  dsimp only [List.cons_append, List.nil_append, tabNews, List.map_cons, List.map_nil] at N2
  have hnl : nms.length = idx.length := by
    have := congrArg List.length hnm
    rwa [List.length_map, List.length_map] at this
  have hsl : (strValues nms).length = nms.length := by simp [strValues]
  lgec_go0
  rename Fr _ _ _ _ => F3
  rename News _ _ _ _ => N3
  replace N3 : News g _ _ [(NM, listOf (strValues nms).toArray kk), (91, tabObj #[])] := fun p hp => N3 p (.tail _ hp)
  refine exec_cut F3 (OrJ NM nms kk b tb wd (idx.length - 1)) ?_ ?_
  · refine For_invVF F3 (by with_unfolding_all rfl) (by with_unfolding_all rfl) ?_ (fun _ => by with_unfolding_all rfl) PassesOwn.never
    lgec_go0
    all_goals try (rw [List.size_toArray, hsl]; omega)
    rename IsRange _ _ _ _ _ _ _ _ => hr9
    rename Fr _ _ _ _ => F4
    rename News _ _ _ _ => N4
    have e9 : (((strValues nms).toArray.size : Nat) : Int) = ((idx.length : Nat) : Int) := by rw [List.size_toArray, hsl, hnl]
    rw [e9] at hr9
    refine iter_range (n := idx.length - 1) (OrJ NM nms kk b tb wd) rfl hr9 (small_one (by omega) (by omega) (by omega) (by omega)) (by rw [rangeSize_one]; split <;> omega) F4 N4 ?_ ?_ ?_
    · exact ⟨_, _, mp_of ⟨by with_unfolding_all rfl, by with_unfolding_all rfl, by with_unfolding_all rfl, by with_unfolding_all rfl, trivial⟩, rfl⟩
    · rintro i t m₁ nx h tk I oI hi ⟨to, u, rfl, rfl⟩ hoff F₃ N₃
      have hf := fac_small (i := i) (by omega)
      generalize hfc : fac (i + 1) = fc at *
      dsimp only
      lgec_go0
      rename Fr _ _ _ _ => F9
      rename News _ _ _ _ => N9
      have e9 : (fc : Int) * (2 + (i : Int) * 1) = ((fac (i + 1 + 1) : Nat) : Int) := by
        show _ = ((fac (i + 1) * (i + 1 + 1) : Nat) : Int)
        rw [hfc, Int.natCast_mul]
        congr 1
        omega
      rw [e9] at F9
      exact Trn.intro _ F9 N9 (fun p hp => .tail _ hp) (.head _) hoff ⟨_, _, mp_of ⟨rfl, rfl, rfl, rfl, trivial⟩, rfl⟩
    · rintro m₁ nx h tk hJ F8 N8
      exact Nxt.intro F8 N8 hJ
  · rintro h5 tk5 m5 nx5 F5 N5 ⟨to, u, rfl, rfl⟩
    dsimp only
    have hfn : idx.length - 1 + 1 = idx.length := by omega
    rw [hfn] at F5
    have hfp := fac_room hi3 hi5
    have hfz : ((fac idx.length : Nat) : Int) ≠ 0 := by omega
    lgec_go0
    dsimp only [List.append_nil]
    rename Fr _ _ _ _ => F6
    rename News _ _ _ _ => N6
    refine pile_make w _ _ _ _ _ _ _ _ _ _ _ _ _ _ _ _ _ B1 F6 X1 N6 T1 rfl rfl rfl ?_
    intro x dx h6 tk6 t1 t2 F6 N6 hlt6 hdx6
    dsimp only
    lgec_go0
    rename Fr _ _ _ _ => F7
    obtain ⟨h0, hh0⟩ : ∃ h0 : Nat, b.fmod ((fac idx.length : Nat) : Int) = (h0 : Int) := ⟨(b.fmod ((fac idx.length : Nat) : Int)).toNat, (Int.toNat_of_nonneg (Int.fmod_nonneg_of_pos _ (by omega))).symm⟩
    have hh1 : h0 < fac idx.length := by
      have := Int.fmod_lt_of_pos b (show (0 : Int) < ((fac idx.length : Nat) : Int) by omega)
      omega
    rw [hh0] at F7
    rename News _ _ _ _ => N7
    have hdx : dx ≠ x := Nat.ne_of_lt hdx6
    have hop : ∀ q ∈ nms, ∃ k, opN q.1.cps.toList = some k := fun q hq => by
      have h1 : q.1.cps.toList ∈ nms.map (·.1.cps.toList) := List.mem_map_of_mem hq
      rw [hnm] at h1
      obtain ⟨j, hj, e⟩ := List.mem_map.mp h1
      exact ⟨7 + j, e ▸ sg_num (hi48 j hj)⟩
    have hnm3 : ∀ q ∈ nms, q.1.length ≤ 3 := fun q hq => by
      have h1 : q.1.cps.toList ∈ nms.map (·.1.cps.toList) := List.mem_map_of_mem hq
      rw [hnm] at h1
      obtain ⟨j, hj, e⟩ := List.mem_map.mp h1
      have h2 := sg_len3 (hi48 j hj)
      rw [e] at h2
      simpa [Str.length] using h2
    have hcz : ∀ hq : Nat, hq < fac idx.length → changeZ (numOf nms) (rowZ (hq : Int) idx.length) = (decide (hq + 1 < fac idx.length), rowZ ((min (hq + 1) (fac idx.length - 1) : Nat) : Int) idx.length) := fun hq hh =>
      change_op hi3 hi5 hh hip hi48 fun i hi => num_is hnm hi48 hi
    refine exec_cut F7 (PiD w.params x dx NM wd t1 t2 (fac idx.length) (h0 : Int) nms (listOf (strValues nms).toArray kk) (rowZ (h0 : Int) idx.length)) ?_ ?_
    · refine For_invTF F7 ?_ (fun _ => by with_unfolding_all rfl) PassesOwn.never
      lgec_go0
      refine row_spec w _ _ NM nms kk _ (N7 _ (.tail _ (.tail _ (.head _)))).1 (by omega) (by omega) (by omega) (by omega) _ _ _ _ _ _ _ _ _ _ _ _ _ _ _ B1 F7 X1 (fun _ h => nomatch h) T1 rfl rfl rfl ?_
      rintro v nl h8 tk8 F8 K8 hn8 ⟨R, rv, kr, tl₀, rfl, rfl, hta0, htw0⟩
      have N8 := news_add F7 N7 K8 hn8
      rw [hnl] at htw0
      have N9 : News g _ h8 ((x, instL 122 dx #[] 0) :: (dx, pileDict w.params t1 t2) :: (((NM, listOf (strValues nms).toArray kk) :: (91, tabObj #[]) :: (R, listOf rv.toArray kr) :: tl₀) ++ [])) := fun p hp => N8 p (by
        simp only [List.mem_cons, List.mem_append, List.not_mem_nil, or_false] at hp ⊢
        rcases hp with h | h | h | h | h | h <;> simp [h])
      clear N8 N7 F7 K8 hn8
      dsimp only
      lgec_go0
      refine iter_list (listOf rv.toArray kr) (PiJ w.params x dx NM wd t1 t2 (fac idx.length) (h0 : Int) nms (rowZ (h0 : Int) idx.length) ((NM, listOf (strValues nms).toArray kk) :: (91, tabObj #[]) :: (R, listOf rv.toArray kr) :: tl₀)) rfl rfl ⟨_, rfl⟩ F8 N9 (.inr ?_) ?_ ?_ ?_
      · rintro i m nx ⟨pv, np, tl, th, to', u, _, rfl, _, _⟩
        exact .tail _ (.tail _ (.tail _ (.tail _ (.head _))))
      · exact ⟨[], _, [], _, _, _, mp_of ⟨by with_unfolding_all rfl, by with_unfolding_all rfl, by with_unfolding_all rfl, by with_unfolding_all rfl, by with_unfolding_all rfl, trivial⟩, rfl, (fun _ h => nomatch h), trivial⟩
      · rintro i v m₁ nx s₂ I oI hv ⟨pv, np, tl, th, to', u, rfl, rfl, hta, htw⟩ hoff F₃ N₃
        obtain ⟨q, T', xx, z, hq, rfl, hm, ⟨ta, rfl⟩, nm, tb', tc, hnmq, rfl⟩ := htw0.get hv
        have hTup : IsTup s₂.heap T' #[.str (look q.1) ta, .str nm tb'] := ⟨_, (N₃ _ (.tail _ (.tail _ (.tail _ (List.mem_append_left _ (.tail _ (.tail _ (.tail _ hm)))))))).1, rfl, _, rfl⟩
        have hKA : KeepAll (((NM, listOf (strValues nms).toArray kk) :: (91, tabObj #[]) :: (R, listOf rv.toArray kr) :: tl₀) ++ tl) := keepAll_rest hta0 hta
        have hps : pv.toArray.size ≤ 1000 := by
          have := htw.len
          rw [List.length_take, rowZ_length] at this
          rw [List.size_toArray]; omega
        obtain ⟨rl, hrl⟩ : ∃ rl, ((NM, listOf (strValues nms).toArray kk) :: (91, tabObj #[]) :: (R, listOf rv.toArray kr) :: tl₀) ++ tl = rl := ⟨_, rfl⟩
        rw [hrl] at N₃ hKA hoff
        lgec_go0
        rename Fr _ _ _ _ => F4
        rename News _ _ _ _ => N4
        refine method_fnL (X1.keeps F4.keep) ⟨(N4 _ (.tail _ (.head _))).1, rfl, rfl, (N4 _ (.tail _ (.tail _ (.head _)))).1⟩ (pile_ga _) (pile_getattr _) (pile_push _) (pile_push_t _) (shadow_push _ _ _) ?_
        lgec_go0
        refine push_specA w x dx pv.toArray np t1 t2 _ _ _ _ (by k_room) hps hdx _ _ _ _ _ _ _ _ _ _ _ _ _ _ B1 F4 X1 (hid_part N4) T1 rfl rfl rfl ?_
        rintro v nl h5 tk5 F5 K5 hn5 ⟨T2, rfl, rfl⟩
        obtain ⟨N5, hd5⟩ := news_call F4 (hid_part N4) (keep_part N4) (keep_off2 (own := [(I, oI)]) N4 (fun p hp => by rw [List.mem_singleton.mp hp]; exact ⟨(hoff _ (.head _)).symm, (hoff _ (.tail _ (.head _))).symm⟩) hKA) K5 hn5
        dsimp only
        lgec_go0
        subst hrl
        exact pi_turn (b := q.1) (j := q.2) (tc := tc) F5 ⟨rfl, rfl, rfl, rfl, rfl, trivial⟩ N5 hd5 (fun p hp => hoff p (.tail _ (.tail _ hp))) hta htw hq hnmq
      · rintro m₁ nx h tk hJ F9 N9
        exact pi_done F9 N9 (by rw [htw0.len]) hJ
    · rintro h9 tk9 m9 nx9 F9 N9 ⟨pv, np, tl, th, to', u, rfl, rfl, hta, htw⟩
      dsimp only
      lgec_go0
      rename Fr _ _ _ _ => F10
      rename News _ _ _ _ => N10
      refine for_gens (h₀ := g) (n := 6) (LwJ w.params x dx NM wd t1 t2 idx nms (listOf (strValues nms).toArray kk)) rfl (by with_unfolding_all rfl) (by with_unfolding_all rfl) (by decide) ?_ (fun _ => by with_unfolding_all rfl) PassesOwn.never
      lgec_go0
      rename IsRange _ _ _ _ _ _ _ _ => hr10
      rename Fr _ _ _ _ => F11
      rename News _ _ _ _ => N11
      refine ⟨_, _, _, _, _, _, rfl, hr10, F11, N11, ?_, ?_, ?_⟩
      · exact ⟨h0, np, pv, tl, #[], _, _, _, _, _, mp_of ⟨by with_unfolding_all rfl, by with_unfolding_all rfl, by with_unfolding_all rfl, by with_unfolding_all rfl, by with_unfolding_all rfl, by with_unfolding_all rfl, trivial⟩, rfl, hta, htw, hh1, ⟨trivial, .inl rfl⟩, hgb, fun h => absurd h (by decide)⟩
      · clear F11 N11 hta htw hh1 hh0 hgb hr10
        rintro i t m₁ nx h tk gs I oI hi ⟨hq, np, pv, tl, ps, T, th, to, tp, u, rfl, rfl, hta, htw, hh, htab, hgs, hpg⟩ hoff F₃ N₃
        lgec_go0
        refine change_spec w x dx pv np t1 t2 tl nms (rowZ (hq : Int) idx.length) _ hdx hta (fun p hp => (N₃ p (.tail _ (.tail _ (.tail _ (.tail _ (.tail _ hp)))))).1) htw (by rw [rowZ_length]; omega) hop _ _ _ _ _ _ _ _ _ _ _ _ _ _ _ B1 F₃ X1 (hid_part N₃) T1 rfl rfl rfl ?_
        rintro v nl h5 tk5 F5 K5 hn5 ⟨pv2, np2, tl2, rfl, rfl, hta2, htw2⟩
        rw [hcz hq hh] at htw2
        simp only [hcz hq hh]
        obtain ⟨N5, hd5⟩ := news_call F₃ (hid_part N₃) (keep_part N₃) (keep_off2 (own := [(I, oI)]) N₃ (fun p hp => by rw [List.mem_singleton.mp hp]; exact ⟨(hoff _ (.head _)).symm, (hoff _ (.tail _ (.head _))).symm⟩) (keepAll_law hta)) K5 hn5
        have N6 := lw_order N5
        have hoff6 := lw_off (oI := oI) hoff hd5
        clear N5 hd5 N₃ F₃ hoff hn5 K5 hta htw
        have hfr := fac_room hi3 hi5
        have hdec : (decide (hq + 1 < fac idx.length)) = decide (((hq : Int) + 1) < ((fac idx.length : Nat) : Int)) := by
          rw [decide_eq_decide]; omega
        rw [hdec]
        lgec_go0
        · rename (_ != _) = true => hne
          simp at hne
        · rename wd = true => hwd
          subst hwd
          rename Fr _ _ _ _ => F8
          rename News _ _ _ _ => N8
          rw [min_if _ _ hfr.1] at F8
          dsimp only at htw2
          have hq2 : min (hq + 1) (fac idx.length - 1) < fac idx.length := by omega
          generalize min (hq + 1) (fac idx.length - 1) = h2 at *
          refine kso_call (K := hdK.heap_1 w.params) (od := some (pileDict w.params t1 t2)) (Nat.le_of_ble_eq_true rfl) (X1.keeps F8.keep) ⟨(N8 _ (.tail _ (.head _))).1, rfl, rfl, (N8 _ (.tail _ (.tail _ (.head _)))).1⟩ (pile_str _) (by kernel_rfl) ?_
          refine str_specG w x dx pv2 np2 t1 t2 ps tl2 nms (rowZ (h2 : Int) idx.length) _ _ (Nat.le_of_ble_eq_true rfl) rfl hdx htw2 (fun p hp => (N8 _ (.tail _ (.tail _ (.tail _ (.tail _ (.tail _ hp)))))).1) hta2 (by rw [rowZ_length]; omega) hnm3 htab _ _ _ _ _ _ _ _ _ _ _ _ _ _ B1 F8 X1 (lw_hid3 N8) T1 rfl rfl rfl ?_
          rintro v nl h7 tk7 gs7 hgs7 F7 K7 hn7 ⟨T', t', ps', rfl, hT', htab', rfl⟩
          obtain ⟨N7, hd7⟩ := news_call F8 (lw_hid3 N8) (lw_keep3 N8) (lw_dis3 N8 hoff6 hta2) K7 hn7
          have N9 := lw_order3 N7
          have hoff9 := lw_off3 (oc' := tabObj ps') hoff6
          have hT2 := hT'
          rw [hnm] at hT2
          have hpe := (page_esc hi48 hT2).2
          have hlen' := row_len hnm3 (by rw [rowZ_length]; omega) hT'
          clear N8 N7 hd7 K7 hn7 F8 hoff6 F5 htab
          replace hgs7 := hgs7 hgs
          show wpAny _ _ _ _ _ _
          dsimp only
          lgec_go0
          refine escW_spec w T' t' _ hlen' _ _ _ _ _ _ _ _ _ _ _ _ _ _ _ B1 F7 X1 (fun _ h => nomatch h) T1 rfl rfl rfl ?_
          rintro v nl h8 tk8 F8 K8 hn8 ⟨t8, rfl⟩
          have N8 := news_keep N9 K8
          clear N9 F7 K8 hn8
          generalize escW T' = PG at *
          dsimp only
          lgec_go0
          rename Fr _ _ _ _ => F9
          rename News _ _ _ _ => N9
          refine row_spec w _ _ NM nms kk _ (N9 _ (.tail _ (.tail _ (.tail _ (.tail _ (.head _)))))).1 (by omega) (by omega) (by omega) (by omega) _ _ _ _ _ _ _ _ _ _ _ _ _ _ _ B1 F9 X1 (fun _ h => nomatch h) T1 rfl rfl rfl ?_
          rintro v nl h10 tk10 F10 K10 hn10 ⟨R, rv, kr, tl₀, rfl, rfl, hta0, htw0⟩
          have N10 := news_add F9 N9 K10 hn10
          rw [hnl] at htw0
          clear N9 K10 hn10 F9
          dsimp only
          lgec_go0
          refine page_spec w true R rv kr tl₀ nms (rowZ (h2 : Int) idx.length) _ (N10 _ (.head _)).1 (fun p hp => (N10 _ (.tail _ (List.mem_append_left _ hp))).1) htw0 (by rw [rowZ_length]; omega) hnm3 _ _ _ _ _ _ _ _ _ _ _ _ _ _ _ B1 F10 X1 (fun _ h => nomatch h) T1 rfl rfl rfl ?_
          rintro v nl h11 tk11 F11 K11 hn11 ⟨rfl, Tp, tpp, rfl, hTp⟩
          rw [hnm] at hTp
          have hpp : Tp = PG := str_ext (hTp.trans hpe.symm)
          subst hpp
          have N11 := news_keep N10 K11
          clear N10 F10 K11 hn11
          dsimp only
          lgec_go0
          · exfalso
            first
              | (rename (_ != _) = true => hne2; simp at hne2)
              | (rename ¬ (_ = _) => hne2; exact hne2 rfl)
              | (rename _ ≠ _ => hne2; exact hne2 rfl)
          · exact ⟨rfl, _, _, gs7, _, _, rfl, F11, fun p hp => N11 p (List.mem_append_right _ hp), hoff9, h2, np2, pv2, tl2, ps', _, _, _, _, _, mp_of ⟨rfl, rfl, rfl, rfl, rfl, rfl, trivial⟩, rfl, hta2, htw2, hq2, htab', hgs7, fun _ => hpe⟩
        · rename wd = false => hwd
          subst hwd
          rename Fr _ _ _ _ => F8
          rename News _ _ _ _ => N8
          rw [min_if _ _ hfr.1] at F8
          dsimp only at htw2
          have hq2 : min (hq + 1) (fac idx.length - 1) < fac idx.length := by omega
          generalize min (hq + 1) (fac idx.length - 1) = h2 at *
          refine kso_call (K := hdK.heap_1 w.params) (od := some (pileDict w.params t1 t2)) (Nat.le_of_ble_eq_true rfl) (X1.keeps F8.keep) ⟨(N8 _ (.tail _ (.head _))).1, rfl, rfl, (N8 _ (.tail _ (.tail _ (.head _)))).1⟩ (pile_str _) (by kernel_rfl) ?_
          refine str_specG w x dx pv2 np2 t1 t2 ps tl2 nms (rowZ (h2 : Int) idx.length) _ _ (Nat.le_of_ble_eq_true rfl) rfl hdx htw2 (fun p hp => (N8 _ (.tail _ (.tail _ (.tail _ (.tail _ (.tail _ hp)))))).1) hta2 (by rw [rowZ_length]; omega) hnm3 htab _ _ _ _ _ _ _ _ _ _ _ _ _ _ B1 F8 X1 (lw_hid3 N8) T1 rfl rfl rfl ?_
          rintro v nl h7 tk7 gs7 hgs7 F7 K7 hn7 ⟨T', t', ps', rfl, hT', htab', rfl⟩
          obtain ⟨N7, hd7⟩ := news_call F8 (lw_hid3 N8) (lw_keep3 N8) (lw_dis3 N8 hoff6 hta2) K7 hn7
          have N9 := lw_order3 N7
          have hoff9 := lw_off3 (oc' := tabObj ps') hoff6
          have hT2 := hT'
          rw [hnm] at hT2
          have hpe := (page_esc hi48 hT2).1
          have hlen' := row_len hnm3 (by rw [rowZ_length]; omega) hT'
          clear N8 N7 hd7 K7 hn7 F8 hoff6 F5 htab
          replace hgs7 := hgs7 hgs
          show wpAny _ _ _ _ _ _
          dsimp only
          lgec_go0
          refine esc_spec w T' t' _ hlen' _ _ _ _ _ _ _ _ _ _ _ _ _ _ _ B1 F7 X1 (fun _ h => nomatch h) T1 rfl rfl rfl ?_
          rintro v nl h8 tk8 F8 K8 hn8 ⟨t8, rfl⟩
          have N8 := news_keep N9 K8
          clear N9 F7 K8 hn8
          generalize escC T' = PG at *
          dsimp only
          lgec_go0
          rename Fr _ _ _ _ => F9
          rename News _ _ _ _ => N9
          refine row_spec w _ _ NM nms kk _ (N9 _ (.tail _ (.tail _ (.tail _ (.tail _ (.head _)))))).1 (by omega) (by omega) (by omega) (by omega) _ _ _ _ _ _ _ _ _ _ _ _ _ _ _ B1 F9 X1 (fun _ h => nomatch h) T1 rfl rfl rfl ?_
          rintro v nl h10 tk10 F10 K10 hn10 ⟨R, rv, kr, tl₀, rfl, rfl, hta0, htw0⟩
          have N10 := news_add F9 N9 K10 hn10
          rw [hnl] at htw0
          clear N9 K10 hn10 F9
          dsimp only
          lgec_go0
          refine page_spec w false R rv kr tl₀ nms (rowZ (h2 : Int) idx.length) _ (N10 _ (.head _)).1 (fun p hp => (N10 _ (.tail _ (List.mem_append_left _ hp))).1) htw0 (by rw [rowZ_length]; omega) hnm3 _ _ _ _ _ _ _ _ _ _ _ _ _ _ _ B1 F10 X1 (fun _ h => nomatch h) T1 rfl rfl rfl ?_
          rintro v nl h11 tk11 F11 K11 hn11 ⟨rfl, Tp, tpp, rfl, hTp⟩
          rw [hnm] at hTp
          have hpp : Tp = PG := str_ext (hTp.trans hpe.symm)
          subst hpp
          have N11 := news_keep N10 K11
          clear N10 F10 K11 hn11
          dsimp only
          lgec_go0
          · exfalso
            first
              | (rename (_ != _) = true => hne2; simp at hne2)
              | (rename ¬ (_ = _) => hne2; exact hne2 rfl)
              | (rename _ ≠ _ => hne2; exact hne2 rfl)
          · exact ⟨rfl, _, _, gs7, _, _, rfl, F11, fun p hp => N11 p (List.mem_append_right _ hp), hoff9, h2, np2, pv2, tl2, ps', _, _, _, _, _, mp_of ⟨rfl, rfl, rfl, rfl, rfl, rfl, trivial⟩, rfl, hta2, htw2, hq2, htab', hgs7, fun _ => hpe⟩
      · rintro m₁ nx h tk gs ⟨hq, np, pv, tl, ps, T, th, to, tp, u, rfl, rfl, hta, htw, hh, htab, hgs, hpg⟩ F₃ N₃
        have hT := hpg (by decide)
        have hh5 := hour_law (wide := wd) hi3 hi5 hh hip hi48
        have hl5 := page_len (wide := wd) hnm hnm3 (rz := rowZ (hq : Int) idx.length) (by rw [rowZ_length]; omega)
        rw [← hT] at hh5 hl5
        have hl6 : T.length ≤ 1000 := by
          have : T.cps.toList.length = T.length := by simp [Str.length]
          omega
        dsimp only
        lgec_go0
        refine hour_spec w T tp _ hl6 hh5.2 _ _ _ _ _ _ _ _ _ _ _ _ _ _ _ B1 F₃ X1 (fun _ h => nomatch h) T1 rfl rfl rfl ?_
        rintro v nl h7 tk7 F7 K7 hn7 ⟨⟨th', rfl⟩, rfl⟩
        have N7 := news_keep N₃ K7
        simp only [hh5.1]
        lgec_go0
        · exact congrArg (fun b => Flow.ret (Value.bool b)) (beq_self_eq_true _)
        · exact hgs
        · exact (N7 _ (.tail _ (.tail _ (.head _)))).1
end Mine
theorem PySem.Challenge.cw_xo0027_01_holds : PySem.Challenge.rw_xo0027_01.Holds := by
  exact Mine.lawW
